/- A polynomial that is not zero has no more roots than its degree, and both ways of evaluating tell them alike. Conditions: none. -/
import Derived.Test.YtpjfokolbgcbhaaDoorRt
import Derived.Test.YtpjfokolbgcbhaaDoorPureFnFieldRing
import Derived.Test.YtpjfokolbgcbhaaDoorQx2
import Derived.Laws.Bits64b
namespace Go.Proofs.YtpjfokolbgcbhaaDoor.Pure
open Go.RowKit Go.Proofs.YtpjfokolbgcbhaaDoor Go.Proofs.YtpjfokolbgcbhaaDoor.Q Go.Proofs.YtpjfokolbgcbhaaDoorW.PrintWords Go.Proofs.YtpjfokolbgcbhaaDoorW.PrintLast

theorem w64 {n : Int} (h0 : -9223372036854775808 ≤ n) (h1 : n ≤ 9223372036854775807) : wrap64 n = n := by
  unfold wrap64; omega
theorem wu64 {n : Int} (h0 : 0 ≤ n) (h1 : n < 18446744073709551616) : IntKind.u64.wrap n = n := by
  show n % 18446744073709551616 = n
  omega
theorem shl_u64 {x y : Int} (x' y' : Nat) (hx : x = x') (hy : y = y') (h : x' * 2 ^ y' < 18446744073709551616) (hy64 : y' ≤ 64) : shl .u64 x y = ((x' * 2 ^ y' : Nat) : Int) := by
  subst hx hy
  unfold shl
  rw [Int.toNat_natCast, show min y' IntKind.u64.bits = y' from Nat.min_eq_left hy64]
  rw [show ((x' : Int) * 2 ^ y') = ((x' * 2 ^ y' : Nat) : Int) by push_cast; rfl]
  exact wu64 (by omega) (by omega)
theorem shr_u64 (x y : Nat) (hy : y ≤ 64) : shr .u64 (x : Int) (y : Int) = ((x / 2 ^ y : Nat) : Int) := by
  unfold shr
  rw [Int.toNat_natCast, show min y IntKind.u64.bits = y from Nat.min_eq_left hy]
  push_cast; rfl
theorem shr_u32 (x y : Nat) (hy : y ≤ 32) : shr .u32 (x : Int) (y : Int) = ((x / 2 ^ y : Nat) : Int) := by
  unfold shr
  rw [Int.toNat_natCast, show min y IntKind.u32.bits = y from Nat.min_eq_left hy]
  push_cast; rfl
theorem and1_u64 (x : Nat) (hx : x < 18446744073709551616) : Go.bits .and .u64 (x : Int) 1 = ((x % 2 : Nat) : Int) := by
  have := bits_and_u64_nat x 1 hx (by omega)
  rw [Nat.and_one_is_mod] at this
  exact this
theorem and1_u32 (x : Nat) (hx : x < 4294967296) : Go.bits .and .u32 (x : Int) 1 = ((x % 2 : Nat) : Int) := by
  have := (bits_nat .u32 32 (by decide) (fun n h0 h1 => by
    rw [IntKind.wrap_u32]
    have e : (2 : Int) ^ 32 = 4294967296 := by decide
    rw [e] at h1
    omega) x 1 (by omega) (by omega)).1
  rw [Nat.and_one_is_mod] at this
  exact this

theorem prodN_lt (a b : Nat) (ha : a < 256) : ∀ n i acc, n + i = 32 → acc < 2 ^ 40 → prodN a b n i acc < 2 ^ 40
  | 0, _, _, _, h => h
  | n + 1, i, acc, hn, h => by
    unfold prodN
    apply prodN_lt a b ha n (i + 1) _ (by omega)
    split
    · refine Nat.xor_lt_two_pow h ?_
      have h1 : a * 2 ^ i < 2 ^ 8 * 2 ^ i := Nat.mul_lt_mul_of_pos_right ha (Nat.two_pow_pos i)
      rw [← Nat.pow_add] at h1
      exact Nat.lt_of_lt_of_le h1 (Nat.pow_le_pow_right (by omega) (by omega))
    · exact h
theorem prod_loop (a b : Nat) (ha : a < 256) (hb : b < 256) : ∀ (n i acc k : Nat), n + i = 32 → acc < 2 ^ 40 →
    spec_product.l0 (k + 1 + n) (a : Int) (b : Int) (acc : Int) (i : Int) = some ((prodN a b n i acc : Nat) : Int)
  | 0, i, acc, k, hn, _ => by
    rw [Nat.add_zero]
    simp only [spec_product.l0]
    rw [if_neg (by omega)]
    rfl
  | n + 1, i, acc, k, hn, h => by
    have hi : 2 ^ i ≤ 2 ^ 31 := Nat.pow_le_pow_right (by omega) (by omega)
    have h1 : a * 2 ^ i < 2 ^ 8 * 2 ^ i := Nat.mul_lt_mul_of_pos_right ha (Nat.two_pow_pos i)
    have hdiv : b / 2 ^ i ≤ b := Nat.div_le_self _ _
    rw [show k + 1 + (n + 1) = (k + 1 + n) + 1 by omega]
    have ih := prod_loop a b ha hb n (i + 1) (if b / 2 ^ i % 2 = 1 then acc ^^^ (a * 2 ^ i) else acc) k (by omega) (by
      split
      · refine Nat.xor_lt_two_pow h ?_
        rw [← Nat.pow_add] at h1
        exact Nat.lt_of_lt_of_le h1 (Nat.pow_le_pow_right (by omega) (by omega))
      · exact h)
    generalize k + 1 + n = kk at *
    simp only [spec_product.l0]
    rw [if_pos (by omega), if_pos (by omega), shr_u32 b i (by omega), and1_u32 _ (by omega), wu64 (n := (a : Int)) (by omega) (by omega), shl_u64 a i rfl rfl (by omega) (by omega)]
    have e1 : wrap64 ((i : Int) + 1) = ((i + 1 : Nat) : Int) := by rw [w64 (by omega) (by omega)]; omega
    rw [e1, bits_xor_u64_nat _ _ (by omega) (by omega)]
    unfold prodN
    by_cases hbit : b / 2 ^ i % 2 = 1
    · rw [if_pos hbit] at ih ⊢
      rw [if_pos (by omega)]
      exact ih
    · rw [if_neg hbit] at ih ⊢
      rw [if_neg (by omega)]
      exact ih
theorem rem_loop : ∀ (n x k : Nat), n ≤ 56 → x < 2 ^ 64 → spec_remainder.l0 (k + 1 + n) (x : Int) 285 8 ((n + 7 : Nat) : Int) = some ((remN n x : Nat) : Int)
  | 0, x, k, _, _ => by
    rw [Nat.add_zero]
    simp only [spec_remainder.l0]
    rw [if_neg (by omega)]
    rfl
  | n + 1, x, k, hn, hx => by
    have h1 : 285 * 2 ^ n ≤ 285 * 2 ^ 55 := Nat.mul_le_mul_left _ (Nat.pow_le_pow_right (by omega) (by omega))
    have hdiv : x / 2 ^ (n + 8) ≤ x := Nat.div_le_self _ _
    rw [show k + 1 + (n + 1) = (k + 1 + n) + 1 by omega]
    have ih := rem_loop n (if x / 2 ^ (n + 8) % 2 = 1 then x ^^^ (285 * 2 ^ n) else x) k (by omega) (by
      split
      · exact Nat.xor_lt_two_pow hx (by omega)
      · exact hx)
    generalize k + 1 + n = kk at *
    simp only [spec_remainder.l0]
    rw [if_pos (by omega), if_pos (by omega), show n + 1 + 7 = n + 8 by omega]
    have e1 : wrap64 (((n + 8 : Nat) : Int) - 1) = ((n + 7 : Nat) : Int) := by rw [w64 (by omega) (by omega)]; omega
    have e2 : wrap64 (((n + 8 : Nat) : Int) - 8) = (n : Int) := by rw [w64 (by omega) (by omega)]; omega
    rw [e1, e2, shr_u64 x (n + 8) (by omega), and1_u64 _ (by omega), shl_u64 (x := 285) 285 n rfl rfl (by omega) (by omega), bits_xor_u64_nat _ _ (by omega) (by omega)]
    unfold remN
    by_cases hbit : x / 2 ^ (n + 8) % 2 = 1
    · rw [if_pos hbit] at ih ⊢
      rw [if_pos (by omega), if_pos (by omega)]
      exact ih
    · rw [if_neg hbit] at ih ⊢
      rw [if_neg (by omega)]
      exact ih

theorem mul_fin (a b g : Nat) (P : Int) (k : Nat) (ha : a < 256) (hb : b < 256) (hg : g < 256) (h1 : spec_product.f k (a : Int) (b : Int) = some P) (h2 : spec_remainder.f k P 285 8 = some (g : Int)) :
    spec_Mul.f k (a : Int) (b : Int) = some (g : Int) := by
  unfold spec_Mul.f
  rw [show (a : Int) % 4294967296 = a by omega, show (b : Int) % 4294967296 = b by omega, h1, Option.bind_some, h2, Option.bind_some]
  congr 1
  omega
theorem specMul_of (a b : Nat) (ha : a < 256) (hb : b < 256) : spec_Mul.f 57 (a : Int) (b : Int) = some ((gmul a b : Nat) : Int) := by
  refine mul_fin a b _ ((prodN a b 32 0 0 : Nat) : Int) 57 ha hb (gmul_lt a b) ?_ ?_
  · unfold spec_product.f
    exact prod_loop a b ha hb 32 0 0 24 rfl (by omega)
  · unfold spec_remainder.f
    have hlt := prodN_lt a b ha 32 0 0 rfl (by omega)
    have := rem_loop 56 (prodN a b 32 0 0) 0 (by omega) (Nat.lt_of_lt_of_le hlt (Nat.pow_le_pow_right (by omega) (by omega)))
    rw [rem_prod_all a b ha hb] at this
    exact this

def lst (cs : List Nat) : List Int := cs.map (fun c : Nat => (c : Int))
theorem lst_len (cs : List Nat) : (lst cs).length = cs.length := List.length_map ..
theorem rd_lst (cs : List Nat) (i : Nat) : rd (lst cs) (i : Int) = ((cs.getD i 0 : Nat) : Int) := by
  unfold rd lst
  rw [Int.toNat_natCast, List.getD_eq_getElem?_getD, List.getD_eq_getElem?_getD, List.getElem?_map]
  cases cs[i]? <;> rfl
theorem getD_lt {cs : List Nat} (h : ∀ c, c ∈ cs → c < 256) (i : Nat) : cs.getD i 0 < 256 := by
  rw [List.getD_eq_getElem?_getD]
  by_cases hi : i < cs.length
  · rw [List.getElem?_eq_getElem hi]; exact h _ (List.getElem_mem hi)
  · rw [List.getElem?_eq_none (by omega)]; decide
theorem drop_lt {cs : List Nat} (h : ∀ c, c ∈ cs → c < 256) (i : Nat) : ∀ c, c ∈ cs.drop i → c < 256 := fun c hc => h c (List.mem_of_mem_drop hc)

theorem eval_loop (cs : List Nat) (h : ∀ c, c ∈ cs → c < 256) (hl : cs.length ≤ 2147483647) (x : Nat) (hx : x < 256) (k : Nat) :
    ∀ i, i ≤ cs.length → spec_Eval.l0 (k + 57 + 1 + i) (lst cs) (x : Int) ((hv x (cs.drop i) : Nat) : Int) ((i : Int) - 1) = some ((hv x cs : Nat) : Int)
  | 0, _ => by
    rw [List.drop_zero]
    show spec_Eval.l0 ((k + 57) + 1) _ _ _ _ = _
    generalize k + 57 = kk
    rw [spec_Eval.l0, if_neg (by omega)]
  | i + 1, hi => by
    have ih := eval_loop cs h hl x hx k i (by omega)
    rw [show k + 57 + 1 + (i + 1) = (k + 57 + 1 + i) + 1 by omega]
    have hm := at_rounds (fun k => spec_Mul.mono _ _ k) (show 57 ≤ k + 57 + 1 + i by omega) (specMul_of (hv x (cs.drop (i + 1))) x (hv_lt x _ (drop_lt h _)) hx)
    generalize k + 57 + 1 + i = kk at *
    simp only [spec_Eval.l0]
    have e0 : ((i + 1 : Nat) : Int) - 1 = (i : Int) := by omega
    have e1 : wrap64 ((i : Int) - 1) = (i : Int) - 1 := w64 (by omega) (by omega)
    rw [e0, if_pos (by omega), hm, Option.bind_some, if_pos (by omega), lst_len, if_pos (by omega), rd_lst, e1, xor_u8 _ _ (gmul_lt _ _) (getD_lt h i), ← hv_drop]
    exact ih
theorem value_loop (cs : List Nat) (h : ∀ c, c ∈ cs → c < 256) (hl : cs.length ≤ 2147483647) (x : Nat) (hx : x < 256) (k : Nat) :
    ∀ i, i ≤ cs.length → laws_value.l0 (k + 57 + 1 + i) (lst cs) (x : Int) ((hv x (cs.drop i) : Nat) : Int) ((i : Int) - 1) = some ((hv x cs : Nat) : Int)
  | 0, _ => by
    rw [List.drop_zero]
    show laws_value.l0 ((k + 57) + 1) _ _ _ _ = _
    generalize k + 57 = kk
    rw [laws_value.l0, if_neg (by omega)]
  | i + 1, hi => by
    have ih := value_loop cs h hl x hx k i (by omega)
    rw [show k + 57 + 1 + (i + 1) = (k + 57 + 1 + i) + 1 by omega]
    have hm := mul_of (hv x (cs.drop (i + 1))) x (hv_lt x _ (drop_lt h _)) hx
    generalize k + 57 + 1 + i = kk at *
    simp only [laws_value.l0]
    have e0 : ((i + 1 : Nat) : Int) - 1 = (i : Int) := by omega
    have e1 : wrap64 ((i : Int) - 1) = (i : Int) - 1 := w64 (by omega) (by omega)
    rw [e0, if_pos (by omega), hm, Option.bind_some, if_pos (by omega), lst_len, if_pos (by omega), rd_lst, e1, add_of _ _ (gmul_lt _ _) (getD_lt h i), Option.bind_some, ← hv_drop]
    exact ih
theorem eval_of (cs : List Nat) (h : ∀ c, c ∈ cs → c < 256) (hl : cs.length ≤ 2147483647) (x : Nat) (hx : x < 256) : spec_Eval.f (0 + 57 + 1 + cs.length) (lst cs) (x : Int) = some ((hv x cs : Nat) : Int) := by
  have := eval_loop cs h hl x hx 0 cs.length (Nat.le_refl _)
  rw [List.drop_length] at this
  unfold spec_Eval.f
  rw [lst_len, w64 (by omega) (by omega)]
  exact this
theorem value_of (cs : List Nat) (h : ∀ c, c ∈ cs → c < 256) (hl : cs.length ≤ 2147483647) (x : Nat) (hx : x < 256) : laws_value.f (0 + 57 + 1 + cs.length) (lst cs) (x : Int) = some ((hv x cs : Nat) : Int) := by
  have := value_loop cs h hl x hx 0 cs.length (Nat.le_refl _)
  rw [List.drop_length] at this
  unfold laws_value.f
  rw [lst_len, w64 (by omega) (by omega)]
  exact this

def root (cs : List Nat) (x : Nat) : Bool := hv x cs == 0

/-- The count of the roots. -/
theorem count_loop (cs : List Nat) (h : ∀ c, c ∈ cs → c < 256) (hl : cs.length ≤ 2147483647) (d : Nat) : ∀ n m c k, n + m = 256 → c + (((List.range' m n).filter (root cs)).length) < 1000 →
    laws_FnFieldRoots.l1 (k + 58 + cs.length + 1 + n) (lst cs) (d : Int) (c : Int) (m : Int) = some (decide ((c : Int) + ((((List.range' m n).filter (root cs)).length : Nat) : Int) ≤ d))
  | 0, m, c, k, hn, _ => by
    rw [Nat.add_zero]
    simp only [laws_FnFieldRoots.l1]
    rw [if_neg (by omega)]
    simp
  | n + 1, m, c, k, hn, hc => by
    rw [show k + 58 + cs.length + 1 + (n + 1) = (k + 58 + cs.length + 1 + n) + 1 by omega]
    have hm : m < 256 := by omega
    have hev := at_rounds (fun k => spec_Eval.mono _ _ k) (show 0 + 57 + 1 + cs.length ≤ k + 58 + cs.length + 1 + n by omega) (eval_of cs h hl m hm)
    have hva := at_rounds (fun k => laws_value.mono _ _ k) (show 0 + 57 + 1 + cs.length ≤ k + 58 + cs.length + 1 + n by omega) (value_of cs h hl m hm)
    have e1 : wrap64 ((m : Int) + 1) = ((m + 1 : Nat) : Int) := by rw [w64 (by omega) (by omega)]; omega
    have hr : List.range' m (n + 1) = m :: List.range' (m + 1) n := rfl
    rw [hr, List.filter_cons] at hc ⊢
    have ih0 := fun hc => count_loop cs h hl d n (m + 1) c k (by omega) hc
    have ih1 := fun hc => count_loop cs h hl d n (m + 1) (c + 1) k (by omega) hc
    generalize k + 58 + cs.length + 1 + n = kk at *
    generalize List.range' (m + 1) n = rr at *
    simp only [laws_FnFieldRoots.l1]
    rw [if_pos (by omega), show (m : Int) % 256 = m by omega, hva, Option.bind_some, hev, Option.bind_some, if_neg (by simp), e1]
    unfold root at hc ⊢
    unfold root at ih0 ih1
    by_cases h0 : hv m cs = 0
    · have hb : (hv m cs == 0) = true := by rw [h0]; rfl
      rw [hb] at hc ⊢
      simp only [if_true, List.length_cons] at hc ⊢
      rw [if_pos (by rw [h0]; rfl)]
      have e2 : wrap64 ((c : Int) + 1) = ((c + 1 : Nat) : Int) := by rw [w64 (by omega) (by omega)]; omega
      rw [e2, ih1 (by omega)]
      congr 2
      push_cast
      congr 1
      omega
    · have hb : (hv m cs == 0) = false := by rw [beq_eq_false_iff_ne]; exact h0
      rw [hb] at hc ⊢
      simp only [Bool.false_eq_true, if_false] at hc ⊢
      rw [if_neg (by omega), ih0 (by omega)]

/-- What the first loop has found. -/
def Deg (cs : List Nat) (i : Nat) (g : Int) : Prop := (g = -1 ∧ ∀ j, j < i → cs.getD j 0 = 0) ∨ ∃ d : Nat, d < i ∧ g = d ∧ cs.getD d 0 ≠ 0 ∧ ∀ j, d < j → j < i → cs.getD j 0 = 0

theorem deg_last (cs : List Nat) (h : ∀ c, c ∈ cs → c < 256) (hl : cs.length ≤ 2147483647) (g : Int) (hg : Deg cs cs.length g) : ∃ k, laws_FnFieldRoots.l0 k (lst cs) g (lst cs) (cs.length : Int) (cs.length : Int) = some true := by
  obtain ⟨kk, hkk⟩ : ∃ kk, 0 + 58 + cs.length + 1 + 256 = kk := ⟨_, rfl⟩
  refine ⟨kk + 1 + 1, ?_⟩
  simp only [laws_FnFieldRoots.l0, laws_FnFieldRoots.j1]
  rw [if_neg (by omega), lst_len]
  rcases hg with ⟨rfl, _⟩ | ⟨d, hd, rfl, hd0, hdh⟩
  · rw [if_pos (by omega), if_pos True.intro]
  · rw [if_neg (by omega)]
    by_cases h40 : (cs.length : Int) > 40
    · rw [if_pos (by rw [decide_eq_true_eq]; exact h40)]
    · rw [if_neg (by rw [decide_eq_true_eq]; exact h40)]
      have hle : ((List.range' 0 256).filter (root cs)).length ≤ d := by
        refine roots_le d cs h hd0 (fun i hi => ?_) _ (List.Pairwise.filter _ (List.nodup_range' ..)) (fun x hx => ?_)
        · by_cases hil : i < cs.length
          · exact hdh i hi hil
          · rw [List.getD_eq_getElem?_getD, List.getElem?_eq_none (by omega)]; rfl
        · rw [List.mem_filter, List.mem_range'_1] at hx
          refine ⟨by omega, ?_⟩
          have := hx.2
          unfold root at this
          rw [beq_iff_eq] at this
          exact this
      have := count_loop cs h hl d 256 0 0 0 rfl (by omega)
      rw [hkk] at this
      generalize ((List.range' 0 256).filter (root cs)).length = q at *
      refine this.trans ?_
      congr 1
      rw [decide_eq_true_eq]
      omega
theorem deg_loop (cs : List Nat) (h : ∀ c, c ∈ cs → c < 256) (hl : cs.length ≤ 2147483647) : ∀ n i g, n + i = cs.length → Deg cs i g → ∃ k, laws_FnFieldRoots.l0 k (lst cs) g (lst cs) (cs.length : Int) (i : Int) = some true
  | 0, i, g, hn, hg => by
    obtain rfl : i = cs.length := by omega
    exact deg_last cs h hl g hg
  | n + 1, i, g, hn, hg => by
    have e1 : wrap64 ((i : Int) + 1) = ((i + 1 : Nat) : Int) := by rw [w64 (by omega) (by omega)]; omega
    by_cases h0 : cs.getD i 0 = 0
    · obtain ⟨k, hk⟩ := deg_loop cs h hl n (i + 1) g (by omega) (by
        rcases hg with ⟨h1, h2⟩ | ⟨d, h1, h2, h3, h4⟩
        · exact .inl ⟨h1, fun j hj => by
            rcases Nat.lt_succ_iff_lt_or_eq.1 hj with hj | rfl
            · exact h2 j hj
            · exact h0⟩
        · exact .inr ⟨d, by omega, h2, h3, fun j hdj hj => by
            rcases Nat.lt_succ_iff_lt_or_eq.1 hj with hj | rfl
            · exact h4 j hdj hj
            · exact h0⟩)
      refine ⟨k + 1, ?_⟩
      simp only [laws_FnFieldRoots.l0]
      rw [if_pos (by omega), if_pos (by omega), lst_len, if_pos (by omega), rd_lst, if_pos (by omega), e1]
      exact hk
    · obtain ⟨k, hk⟩ := deg_loop cs h hl n (i + 1) (i : Int) (by omega) (.inr ⟨i, by omega, rfl, h0, fun j hdj hj => by omega⟩)
      refine ⟨k + 1, ?_⟩
      simp only [laws_FnFieldRoots.l0]
      rw [if_pos (by omega), if_pos (by omega), lst_len, if_pos (by omega), rd_lst, if_neg (by omega), e1]
      exact hk

theorem lst_of : ∀ l : List Int, (∀ x ∈ l, (Lit.int .u8 x).wf = true) → ∃ cs : List Nat, l = lst cs ∧ ∀ c, c ∈ cs → c < 256
  | [], _ => ⟨[], rfl, fun c hc => by cases hc⟩
  | x :: l, h => by
    obtain ⟨cs, rfl, hcs⟩ := lst_of l (fun y hy => h y (List.mem_cons_of_mem _ hy))
    have b0 := bounds_u8 (h x (List.mem_cons_self ..))
    obtain ⟨c, rfl⟩ := Int.eq_ofNat_of_zero_le b0.1
    refine ⟨c :: cs, rfl, fun a ha => ?_⟩
    rw [List.mem_cons] at ha
    rcases ha with rfl | ha
    · omega
    · exact hcs a ha

theorem FnFieldRoots : laws_FnFieldRoots.Pure := by
  intro l0 _ _ hw
  obtain ⟨cs, rfl, hcs⟩ := lst_of l0 hw
  by_cases hl : ((lst cs).length : Int) > 2147483647
  · exact ⟨0, by unfold laws_FnFieldRoots.f; rw [if_pos hl]⟩
  rw [lst_len] at hl
  obtain ⟨k, hk⟩ := deg_loop cs hcs (by omega) cs.length 0 (-1) (by omega) (.inl ⟨rfl, fun j hj => by omega⟩)
  refine ⟨k, ?_⟩
  unfold laws_FnFieldRoots.f
  rw [lst_len, if_neg hl]
  exact hk

end Go.Proofs.YtpjfokolbgcbhaaDoor.Pure
