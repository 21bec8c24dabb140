/- Products, identities, tests of matrices, as the printed functions tell them: plain. -/
import Derived.Test.YtpjfokolbgcbhaaDoorEmSM
namespace Go.Proofs.YtpjfokolbgcbhaaDoor.Pure
open Go.RowKit Go.Proofs.YtpjfokolbgcbhaaDoor Go.Proofs.YtpjfokolbgcbhaaDoor.Qm Go.Proofs.YtpjfokolbgcbhaaDoorW.PrintWords Go.Proofs.YtpjfokolbgcbhaaDoorW.PrintLast Go.Proofs.YtpjfokolbgcbhaaDoor.QmP

/-- The columns of the first row. -/
def colN (L : List (List Int)) : Nat := (L.getD 0 []).length
theorem rd_at (L : List (List Int)) (i : Nat) (h : i < L.length) : rd_L1 L (i : Int) = L[i] := by
  unfold rd_L1
  rw [Int.toNat_natCast, List.getD_eq_getElem?_getD, List.getElem?_eq_getElem h]
  rfl
theorem cols_f (L : List (List Int)) : spec_Columns.f L = some (colN L : Int) := by
  unfold spec_Columns.f colN
  by_cases h : (L.length : Int) = 0
  · rw [if_pos h]
    have : L = [] := List.length_eq_zero_iff.1 (by omega)
    subst this; rfl
  · rw [if_neg h, if_pos (by omega)]
    rfl
def Rect (L : List (List Int)) : Prop := 0 < colN L ∧ ∀ r ∈ L, r.length = colN L
theorem rect_go (L : List (List Int)) (hL : L.length ≤ 2147483647) : ∀ (d i k : Nat), i + d = L.length → d < k → ∃ b, spec_Rectangular.l0 k L L (L.length : Int) (i : Int) = some b ∧ (b = true ↔ 0 < colN L ∧ ∀ r ∈ L.drop i, r.length = colN L)
  | 0, i, k + 1, h, _ => by
    simp only [spec_Rectangular.l0]
    rw [if_neg (by omega), cols_f, Option.bind_some, List.drop_eq_nil_of_le (by omega)]
    refine ⟨_, rfl, ?_⟩
    rw [decide_eq_true_iff]
    constructor
    · intro h; exact ⟨by omega, fun r hr => by cases hr⟩
    · intro h; omega
  | d + 1, i, k + 1, h, hk => by
    have hi : i < L.length := by omega
    obtain ⟨b, hb, hbt⟩ := rect_go L hL d (i + 1) k (by omega) (by omega)
    simp only [spec_Rectangular.l0]
    rw [if_pos (by omega), if_pos (by omega), if_pos (by omega), cols_f, Option.bind_some, rd_at L i hi, List.drop_eq_getElem_cons hi]
    by_cases hc : ((L[i].length : Nat) : Int) = (colN L : Int)
    · rw [if_pos hc, w64 (by omega) (by omega)]
      refine ⟨b, hb, hbt.trans ?_⟩
      constructor
      · intro ⟨h1, h2⟩
        refine ⟨h1, fun r hr => ?_⟩
        rcases List.mem_cons.1 hr with rfl | hr
        · omega
        · exact h2 r hr
      · intro ⟨h1, h2⟩
        exact ⟨h1, fun r hr => h2 r (List.mem_cons_of_mem _ hr)⟩
    · rw [if_neg hc]
      refine ⟨false, rfl, ?_⟩
      constructor
      · intro h; cases h
      · intro ⟨_, h2⟩
        have := h2 L[i] (List.mem_cons_self ..)
        omega
theorem rect_f (L : List (List Int)) (hL : L.length ≤ 2147483647) (k : Nat) (hk : L.length < k) : ∃ b, spec_Rectangular.f k L = some b ∧ (b = true ↔ Rect L) := by
  obtain ⟨b, hb, ht⟩ := rect_go L hL L.length 0 k (by omega) hk
  exact ⟨b, hb, by rw [List.drop_zero] at ht; exact ht⟩
theorem zz_go (L : List (List Int)) (hL : L.length ≤ 2147483647) : ∀ (d i k : Nat), i + d = L.length → d < k → ∃ b, laws_zzFits2.l0 k L (L.length : Int) (i : Int) = some b
  | 0, i, k + 1, h, _ => by
    simp only [laws_zzFits2.l0]
    rw [if_neg (by omega)]
    exact ⟨_, rfl⟩
  | d + 1, i, k + 1, h, hk => by
    simp only [laws_zzFits2.l0]
    rw [if_pos (by omega), if_pos (by omega), if_pos (by omega)]
    split
    · exact ⟨_, rfl⟩
    · rw [w64 (by omega) (by omega)]
      exact zz_go L hL d (i + 1) k (by omega) (by omega)
theorem zz_f (L : List (List Int)) (k : Nat) (hk : 2147483648 ≤ k) : ∃ b, laws_zzFits2.f k L = some b ∧ (b = true → L.length ≤ 2147483647) := by
  unfold laws_zzFits2.f
  by_cases h : (L.length : Int) > 2147483647
  · rw [if_pos h]
    exact ⟨_, rfl, fun h => by cases h⟩
  · rw [if_neg h]
    obtain ⟨b, hb⟩ := zz_go L (by omega) L.length 0 k (by omega) (by omega)
    exact ⟨b, hb, fun _ => by omega⟩
/-- A list of rows of one length, of bytes, is a matrix. -/
theorem mat_of (L : List (List Int)) (m : Nat) (h : ∀ r ∈ L, r.length = m) (hb : ∀ r ∈ L, ∀ x ∈ r, 0 ≤ x ∧ x < 256) : ∃ M : Nat → Nat → Nat, (∀ i, B8 (M i)) ∧ L = mat L.length m M := by
  refine ⟨fun i j => ((L.getD i []).getD j 0).toNat, fun i j => ?_, ?_⟩
  · dsimp only
    rw [List.getD_eq_getElem?_getD, List.getD_eq_getElem?_getD]
    rcases h1 : L[i]? with _ | r
    · simp
    · rw [Option.getD_some]
      rcases h2 : r[j]? with _ | x
      · simp
      · have := hb r (List.mem_of_getElem? h1) x (List.mem_of_getElem? h2)
        rw [Option.getD_some]
        omega
  · apply List.ext_getElem
    · rw [mat_len]
    · intro i h1 h2
      have hr := h L[i] (List.getElem_mem h1)
      simp only [mat, List.getElem_map, List.getElem_range]
      apply List.ext_getElem
      · rw [rowL_len, hr]
      · intro j h3 h4
        simp only [rowL, List.getElem_map, List.getElem_range]
        have hx := hb L[i] (List.getElem_mem h1) L[i][j] (List.getElem_mem h3)
        have e1 : L.getD i [] = L[i] := by rw [List.getD_eq_getElem?_getD, List.getElem?_eq_getElem h1, Option.getD_some]
        have e2 : L[i].getD j 0 = L[i][j] := by rw [List.getD_eq_getElem?_getD, List.getElem?_eq_getElem h3, Option.getD_some]
        rw [e1, e2]
        omega
theorem mat_colN (n m : Nat) (M : Nat → Nat → Nat) (h : 0 < n) : colN (mat n m M) = m := by
  unfold colN mat
  rw [List.getD_eq_getElem?_getD, List.getElem?_map, List.getElem?_range h]
  exact rowL_len _ _
theorem mat_rect (n m : Nat) (M : Nat → Nat → Nat) (h : 0 < n) (hm : 0 < m) : Rect (mat n m M) := by
  unfold Rect
  rw [mat_colN n m M h]
  refine ⟨hm, fun r hr => ?_⟩
  obtain ⟨i, _, rfl⟩ := List.mem_map.1 hr
  exact rowL_len _ _

theorem rows_loop (L : List (List Int)) (hL : L.length ≤ 5864062014804) (hrow : ∀ x ∈ L, x.length < 140737488355328) : ∀ (d i k : Nat), i + d = L.length → d < k → impl_rows.l0 k (L.take i) L (L.length : Int) (i : Int) = some L
  | 0, i, k + 1, h, _ => by
    simp only [impl_rows.l0]
    rw [if_neg (by omega), List.take_of_length_le (by omega)]
  | d + 1, i, k + 1, h, hk => by
    have hi : i < L.length := by omega
    have ih := rows_loop L hL hrow d (i + 1) k (by omega) (by omega)
    simp only [impl_rows.l0]
    rw [if_pos (by omega), if_pos (by omega), if_pos (by omega), rd_at L i hi, List.nil_append, if_pos (by have := hrow L[i] (List.getElem_mem hi); simpa using this), if_pos (by rw [List.length_take]; omega), ← List.take_succ_eq_append_getElem hi, w64 (by omega) (by omega)]
    exact ih
theorem rows_of (L : List (List Int)) (hL : L.length ≤ 5864062014804) (hrow : ∀ x ∈ L, x.length < 140737488355328) (k : Nat) (hk : L.length < k) : impl_rows.f k L = some L := rows_loop L hL hrow L.length 0 k (by omega) hk
theorem mat_row_len (n m : Nat) (M : Nat → Nat → Nat) : ∀ x ∈ mat n m M, x.length = m := fun x hx => by
  obtain ⟨i, _, rfl⟩ := List.mem_map.1 hx
  exact rowL_len _ _
theorem rows_mat (n m : Nat) (M : Nat → Nat → Nat) (hn : n ≤ 5864062014804) (hm : m ≤ 140737488355327) (k : Nat) (hk : n < k) : impl_rows.f k (mat n m M) = some (mat n m M) :=
  rows_of _ (by rw [mat_len]; exact hn) (fun x hx => by rw [mat_row_len n m M x hx]; omega) k (by rw [mat_len]; exact hk)
/-- The product. -/
def prod (m : Nat) (A B : Nat → Nat → Nat) : Nat → Nat → Nat := fun i j => dot (A i) (fun k => B k j) m
/-- What is there ahead of column j of row i. -/
def pst (P : Nat → Nat → Nat) (i j : Nat) : Nat → Nat → Nat := fun s t => if s < i then P s t else if s = i then (if t < j then P s t else 0) else 0
theorem pst_next (n m i : Nat) (P : Nat → Nat → Nat) : mat n m (pst P i m) = mat n m (pst P (i + 1) 0) := by
  apply mat_congr
  intro s _ t ht
  unfold pst
  by_cases h1 : s < i
  · rw [if_pos h1, if_pos (by omega)]
  · rw [if_neg h1]
    by_cases h2 : s = i
    · rw [if_pos h2, if_pos ht, if_pos (by omega)]
    · rw [if_neg h2, if_neg (by omega)]
      split
      · rw [if_neg (by omega)]
      · rfl
theorem pst_upd (P : Nat → Nat → Nat) (i j : Nat) : upd (pst P i j) i j (P i j) = pst P i (j + 1) := by
  funext s t
  unfold upd pst
  by_cases h2 : s = i
  · subst h2
    simp only [if_true, Nat.lt_irrefl, if_false]
    by_cases h3 : t = j
    · subst h3; rw [if_pos rfl, if_pos (by omega)]
    · rw [if_neg h3]
      by_cases h4 : t < j
      · rw [if_pos h4, if_pos (by omega)]
      · rw [if_neg h4, if_neg (by omega)]
  · rw [if_neg h2, if_neg h2, if_neg h2]
theorem pst_end (n m : Nat) (P : Nat → Nat → Nat) : mat n m (pst P n 0) = mat n m P := mat_congr fun s hs t _ => by
  unfold pst
  rw [if_pos hs]
theorem pst_zero (n m : Nat) (P : Nat → Nat → Nat) : mat n m (fun _ _ => 0) = mat n m (pst P 0 0) := mat_congr fun s _ t _ => by
  unfold pst
  rw [if_neg (by omega)]
  split
  · rw [if_neg (by omega)]
  · rfl
theorem xor_u8 (a b : Nat) (ha : a < 256) (hb : b < 256) : Go.bits .xor .u8 (a : Int) (b : Int) = ((a ^^^ b : Nat) : Int) := by
  have hx : a ^^^ b < 2 ^ 8 := Nat.xor_lt_two_pow (by omega) (by omega)
  have h1 : (BitVec.ofInt 8 (a : Int)).toNat = a := by
    rw [BitVec.ofInt_natCast, BitVec.toNat_ofNat]; exact Nat.mod_eq_of_lt (by omega)
  have h2 : (BitVec.ofInt 8 (b : Int)).toNat = b := by
    rw [BitVec.ofInt_natCast, BitVec.toNat_ofNat]; exact Nat.mod_eq_of_lt (by omega)
  show IntKind.u8.wrap ((BitVec.ofInt 8 (a : Int) ^^^ BitVec.ofInt 8 (b : Int)).toNat : Int) = _
  rw [BitVec.toNat_xor, h1, h2]
  show ((a ^^^ b : Nat) : Int) % 256 = _
  omega
theorem galmul_of (a b : Nat) (ha : a < 256) (hb : b < 256) : reedsolomon_galMultiply.f (a : Int) (b : Int) = some ((gmul a b : Nat) : Int) := by
  unfold reedsolomon_galMultiply.f
  rw [if_pos (by omega), Int.toNat_natCast, Int.toNat_natCast]
/-- The identity. -/
def uni : Nat → Nat → Nat := fun i j => if i = j then 1 else 0
def ust (i : Nat) : Nat → Nat → Nat := fun s t => if s < i then uni s t else 0
theorem ust_upd (i : Nat) : upd (ust i) i i 1 = ust (i + 1) := by
  funext s t
  simp only [upd, ust, uni]
  by_cases h2 : s = i
  · subst h2
    by_cases h3 : t = s
    · subst h3; simp
    · simp [h3]
      exact fun e => h3 e.symm
  · rw [if_neg h2]
    by_cases h3 : s < i
    · rw [if_pos h3, if_pos (show s < i + 1 by omega)]
    · rw [if_neg h3, if_neg (show ¬ s < i + 1 by omega)]
/-- Two matrices of one size are told apart by their entries. -/
theorem equal_loop (n m : Nat) (A B : Nat → Nat → Nat) (hn : n ≤ 100) (hm : m ≤ 100) (h : ∀ i, i < n → ∀ j, j < m → A i j = B i j) : ∀ (d k i : Nat),
    (i < n → ∀ j c, c + j = m → (n - i - 1) * 102 + c + 2 ≤ d → d ≤ k → spec_EqualMatrices.l1 k (mat n m A) (mat n m B) (i : Int) (n : Int) (i : Int) (m : Int) (j : Int) = some true) ∧
    (i ≤ n → (n - i) * 102 + 1 ≤ d → d ≤ k → spec_EqualMatrices.l0 k (mat n m A) (mat n m B) (n : Int) (i : Int) = some true)
  | 0, k, i => ⟨fun _ _ _ _ _ _ => by omega, fun _ _ _ => by omega⟩
  | d + 1, k, i => by
    refine ⟨fun hi j c hc hd hk => ?_, fun hi hd hk => ?_⟩
    · obtain ⟨k, rfl⟩ : ∃ k', k = k' + 1 := ⟨k - 1, by omega⟩
      simp only [spec_EqualMatrices.l1]
      by_cases hj : j < m
      · have ih := (equal_loop n m A B hn hm h d k i).1 hi (j + 1) (c - 1) (by omega) (by omega) (by omega)
        rw [if_pos (by omega), if_pos (by omega), if_pos (by rw [mat_len]; omega), if_pos (by omega), rd_mat _ _ _ _ hi, if_pos (by rw [rowL_len]; omega), if_pos (by rw [mat_len]; omega), rd_mat _ _ _ _ hi, if_pos (by rw [rowL_len]; omega), rd_row _ _ _ hj, rd_row _ _ _ hj, if_pos (by rw [h i hi j hj]), w64 (by omega) (by omega)]
        exact ih
      · have ih := (equal_loop n m A B hn hm h d k (i + 1)).2 (by omega) (by omega) (by omega)
        rw [if_neg (by omega), w64 (by omega) (by omega)]
        exact ih
    · obtain ⟨k, rfl⟩ : ∃ k', k = k' + 1 := ⟨k - 1, by omega⟩
      simp only [spec_EqualMatrices.l0]
      by_cases hin : i < n
      · have ih := (equal_loop n m A B hn hm h d k i).1 hin 0 m rfl (by omega) (by omega)
        rw [if_pos (by omega), if_pos (by omega), if_pos (by rw [mat_len]; omega), if_pos (by rw [mat_len]; omega), rd_mat _ _ _ _ hin, rd_mat _ _ _ _ hin, rowL_len, rowL_len, if_pos rfl]
        exact ih
      · rw [if_neg (by omega)]
theorem equal_of (n m : Nat) (A B : Nat → Nat → Nat) (hn : n ≤ 100) (hm : m ≤ 100) (h : ∀ i, i < n → ∀ j, j < m → A i j = B i j) (k : Nat) (hk : 11000 ≤ k) : spec_EqualMatrices.f k (mat n m A) (mat n m B) = some true := by
  unfold spec_EqualMatrices.f
  rw [mat_len, mat_len, if_pos rfl]
  exact (equal_loop n m A B hn hm h k k 0).2 (by omega) (by omega) (Nat.le_refl _)
end Go.Proofs.YtpjfokolbgcbhaaDoor.Pure
