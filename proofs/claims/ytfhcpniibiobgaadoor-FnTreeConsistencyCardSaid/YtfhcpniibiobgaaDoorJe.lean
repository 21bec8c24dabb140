/- Several texts, joined. -/
import Derived.Test.YtfhcpniibiobgaaDoorJn
import Derived.Test.YtfhcpniibiobgaaDoorJp
import Derived.Test.YtfhcpniibiobgaaDoorJm
import Derived.Test.YtfhcpniibiobgaaDoorJr
/- Powers of two in numbers: plain (a part of the text Co). -/
namespace Go.Proofs.YtfhcpniibiobgaaDoor.Core
theorem odd_pow {t m n : Nat} (h : 2 ^ n ∣ 2 ^ t * (2 * m + 1)) : n ≤ t := by
  rcases Nat.lt_or_ge t n with hlt | hge
  · obtain ⟨c, hc⟩ := Nat.dvd_trans (Nat.pow_dvd_pow 2 (show t + 1 ≤ n by omega)) h
    rw [Nat.pow_succ, Nat.mul_assoc] at hc
    have := Nat.eq_of_mul_eq_mul_left (Nat.two_pow_pos t) hc
    omega
  · exact hge
theorem ones_below {e n i : Nat} (hd : 2 ^ n ∣ e + 1) (hi : i < n) : e / 2 ^ i % 2 = 1 := by
  obtain ⟨q, hq⟩ := Nat.dvd_trans (Nat.pow_dvd_pow 2 (show i + 1 ≤ n by omega)) hd
  have hp := Nat.two_pow_pos i
  have hq1 : 1 ≤ q := by
    rcases Nat.eq_zero_or_pos q with rfl | h
    · omega
    · exact h
  have hqs : 2 ^ (i + 1) * q = 2 ^ i * (2 * (q - 1)) + 2 * 2 ^ i := by
    have : q = q - 1 + 1 := by omega
    rw [this, Nat.mul_add, Nat.pow_succ, Nat.mul_assoc, Nat.mul_one, Nat.mul_comm 2 (2 ^ i)]
    simp
  rw [show e = 2 ^ i * (2 * (q - 1) + 1) + (2 ^ i - 1) by rw [Nat.mul_add]; omega, Nat.mul_add_div hp, Nat.div_eq_of_lt (by omega)]
  omega
theorem pow_odd : ∀ (k x : Nat), x ≤ k → 0 < x → ∃ t m, x = 2 ^ t * (2 * m + 1)
  | 0, x, h, h0 => by omega
  | k + 1, x, h, h0 => by
    by_cases hx : x % 2 = 1
    · exact ⟨0, x / 2, by omega⟩
    · obtain ⟨t, m, e⟩ := pow_odd k (x / 2) (by omega) (by omega)
      exact ⟨t + 1, m, by rw [Nat.pow_succ', Nat.mul_assoc, ← e]; omega⟩
end Go.Proofs.YtfhcpniibiobgaaDoor.Core
namespace Go.Proofs.YtfhcpniibiobgaaDoor.Pure
open Go.RowKit Go.Proofs.YtfhcpniibiobgaaDoorW.PrintWords Go.Proofs.YtfhcpniibiobgaaDoorW.PrintMore Go.Proofs.YtfhcpniibiobgaaDoorW.PrintLast
open Hs (CB CL)

/-- The hash of a node of a tree. -/
def nd (a0 a2 a5 : Int) (hl : Nat → List Int) : Nat → Nat → List Int
  | 0, i => hl i
  | l + 1, i => hcF a0 a2 a5 (nd a0 a2 a5 hl l (2 * i)) (nd a0 a2 a5 hl l (2 * i + 1))
def bl (n : Nat) : Nat := if n = 0 then 0 else Nat.log2 n + 1
theorem lt_bl {l n : Nat} : l < bl n ↔ 2 ^ l ≤ n := by
  unfold bl
  by_cases h : n = 0
  · subst h
    have := Nat.two_pow_pos l
    rw [if_pos rfl]
    omega
  · rw [if_neg h, Nat.lt_succ_iff, Nat.le_log2 h]
def rsN (a0 a2 a5 : Int) (hl : Nat → List Int) (n : Nat) : List (List (List Int)) := (List.range (bl n)).map fun l => (List.range (n / 2 ^ l)).map (nd a0 a2 a5 hl l)
section
variable {a0 a2 a5 : Int} {hl : Nat → List Int}
theorem rsN_len (n : Nat) : (rsN a0 a2 a5 hl n).length = bl n := by simp [rsN]
theorem rsN_get (n l : Nat) : (rsN a0 a2 a5 hl n).getD l [] = (List.range (n / 2 ^ l)).map (nd a0 a2 a5 hl l) := by
  by_cases h : l < bl n
  · rw [List.getD_eq_getElem?_getD, List.getElem?_eq_getElem (by rw [rsN_len]; exact h)]
    simp [rsN]
  · have h1 : ¬ 2 ^ l ≤ n := fun hh => h (lt_bl.2 hh)
    rw [List.getD_eq_getElem?_getD, List.getElem?_eq_none (by rw [rsN_len]; omega), Nat.div_eq_of_lt (by omega)]
    rfl
theorem rsN_at (n l i : Nat) (hi : i < n / 2 ^ l) : ((rsN a0 a2 a5 hl n).getD l []).getD i [] = nd a0 a2 a5 hl l i := by
  rw [rsN_get, List.getD_eq_getElem?_getD, List.getElem?_eq_getElem (by simpa using hi)]
  simp
theorem rsN_row (n l : Nat) : ((rsN a0 a2 a5 hl n).getD l []).length = n / 2 ^ l := by rw [rsN_get]; simp
end
theorem upR_lo (rows : List (List (List Int))) (sj : Nat → List Int) : ∀ j, j ≤ rows.length → ∀ i, i < j → (Qf.upR rows sj j).getD i [] = rows.getD i [] ++ [sj i]
  | 0, _, i, hi => by omega
  | j + 1, hj, i, hi => by
    rw [Qf.upR]
    by_cases e : j = i
    · subst e
      rw [Qf.getD_set_self _ _ _ _ (by rw [Qf.upR_len]; omega), Qf.upR_hi rows sj j j (Nat.le_refl _)]
    · rw [Qf.getD_set_ne _ _ _ _ _ e, upR_lo rows sj j (by omega) i (by omega)]
theorem upT_get (rows : List (List (List Int))) (sj : Nat → List Int) (m : Nat) (hm : m ≤ rows.length) (i : Nat) : (Qf.upT rows sj m).getD i [] = if i ≤ m then rows.getD i [] ++ [sj i] else rows.getD i [] := by
  unfold Qf.upT
  have hnone : ∀ q, rows.length ≤ q → rows.getD q [] = [] := fun q hq => by rw [List.getD_eq_getElem?_getD, List.getElem?_eq_none hq]; rfl
  by_cases h : m = rows.length
  · rw [if_pos h, Qf.getD_snoc, Qf.upR_len]
    by_cases e : i = rows.length
    · rw [if_pos e, if_pos (by omega), hnone i (by omega), e, h]
      rfl
    · rw [if_neg e]
      rcases Nat.lt_or_ge i m with hlt | hge
      · rw [if_pos (by omega), upR_lo rows sj m hm i hlt]
      · rw [if_neg (by omega), Qf.upR_hi rows sj m i hge]
  · rw [if_neg h]
    by_cases e : m = i
    · subst e
      rw [Qf.getD_set_self _ _ _ _ (by rw [Qf.upR_len]; omega), if_pos (Nat.le_refl _)]
    · rw [Qf.getD_set_ne _ _ _ _ _ e]
      rcases Nat.lt_or_ge i m with hlt | hge
      · rw [if_pos (by omega), upR_lo rows sj m hm i hlt]
      · rw [if_neg (by omega), Qf.upR_hi rows sj m i hge]
theorem upT_len (rows : List (List (List Int))) (sj : Nat → List Int) (m : Nat) : (Qf.upT rows sj m).length = if m = rows.length then rows.length + 1 else rows.length := by
  unfold Qf.upT
  split
  · rw [List.length_append, Qf.upR_len]
    rfl
  · rw [List.length_set, Qf.upR_len]
theorem ext_getD {l1 l2 : List (List (List Int))} (h : l1.length = l2.length) (h2 : ∀ i, l1.getD i [] = l2.getD i []) : l1 = l2 := by
  refine List.ext_getElem h fun i a b => ?_
  have := h2 i
  rwa [List.getD_eq_getElem?_getD, List.getD_eq_getElem?_getD, List.getElem?_eq_getElem a, List.getElem?_eq_getElem b] at this
theorem nd_len {a0 a2 a5 : Int} {hl : Nat → List Int} (h : ∀ i, (hl i).length ≤ 5010) : ∀ l i, (nd a0 a2 a5 hl l i).length + 9 ≤ 2 ^ l * 5020
  | 0, i => by
    have := h i
    rw [nd]
    omega
  | l + 1, i => by
    have h1 := nd_len (a0 := a0) (a2 := a2) (a5 := a5) h l (2 * i)
    have h2 := nd_len (a0 := a0) (a2 := a2) (a5 := a5) h l (2 * i + 1)
    have h3 := hcF_len a0 a2 a5 (nd a0 a2 a5 hl l (2 * i)) (nd a0 a2 a5 hl l (2 * i + 1))
    rw [nd, Nat.pow_succ, Nat.mul_right_comm]
    omega
theorem tstep_of (a0 a1 a2 a3 a4 a5 : Int) {hl : Nat → List Int} (h : ∀ i, (hl i).length ≤ 5010) (n : Nat) (hn : n < 300) : Qf.TStep a0 a1 a2 a3 a4 a5 n (rsN a0 a2 a5 hl n) (hl n) (rsN a0 a2 a5 hl (n + 1)) := by
  obtain ⟨m, q, hq⟩ := Core.pow_odd (n + 1) (n + 1) (Nat.le_refl _) (by omega)
  have hp := Nat.two_pow_pos m
  have hmul : 2 ^ m * (2 * q + 1) = 2 ^ m * (2 * q) + 2 ^ m := by rw [Nat.mul_add, Nat.mul_one]
  have hdm : n / 2 ^ m = 2 * q := by
    rw [show n = 2 ^ m * (2 * q) + (2 ^ m - 1) by omega, Nat.mul_add_div hp, Nat.div_eq_of_lt (by omega)]
    omega
  have hle : 2 ^ m ≤ n + 1 := by omega
  have hml : m ≤ bl n := by
    rcases Nat.eq_zero_or_pos m with h0 | h0
    · omega
    · have h1 : m - 1 < bl n := lt_bl.2 (by
        have h2 : 2 ^ m = 2 * 2 ^ (m - 1) := by rw [← Nat.pow_succ']; congr 1; omega
        have := Nat.two_pow_pos (m - 1)
        omega)
      omega
  have hdvd : ∀ i, i ≤ m → 2 ^ i ∣ n + 1 := fun i hi => by
    rw [hq]
    exact Nat.dvd_trans (Nat.pow_dvd_pow 2 hi) ⟨_, rfl⟩
  have hbl : bl n ≤ 100 := by
    rcases Nat.lt_or_ge 100 (bl n) with hh | hh
    · have := lt_bl.1 hh
      have h2 : 2 ^ 9 ≤ 2 ^ 100 := Nat.pow_le_pow_right (by omega) (by omega)
      omega
    · exact hh
  have hm64 : m < 64 := by
    rcases Nat.lt_or_ge m 64 with hh | hh
    · exact hh
    · have h2 : 2 ^ 9 ≤ 2 ^ m := Nat.pow_le_pow_right (by omega) (by omega)
      omega
  have hsz : ∀ i, i ≤ m → ∀ x, (nd a0 a2 a5 hl i x).length ≤ 10000000000000 := fun i hi x => by
    have h1 := nd_len (a0 := a0) (a2 := a2) (a5 := a5) h i x
    have h2 : 2 ^ i ≤ 2 ^ m := Nat.pow_le_pow_right (by omega) hi
    omega
  refine ⟨m, fun i => nd a0 a2 a5 hl i (n / 2 ^ i), by show nd a0 a2 a5 hl 0 (n / 2 ^ 0) = _; rw [Nat.pow_zero, Nat.div_one]; rfl, by rw [rsN_len]; exact hml, by rw [rsN_len]; exact hbl, hm64, fun i _ => ?_, fun i hi => Core.ones_below (hdvd m (Nat.le_refl _)) hi, by rw [hdm]; omega, fun i hi => ?_, fun i hi => ?_, ?_⟩
  · rw [rsN_row]
    have := Nat.div_le_self n (2 ^ i)
    omega
  · rw [rsN_row]
    have := Core.ones_below (hdvd m (Nat.le_refl _)) hi
    generalize n / 2 ^ i = p at this ⊢
    omega
  · have ho := Core.ones_below (hdvd m (Nat.le_refl _)) hi
    have hpos : n / 2 ^ i - 1 < n / 2 ^ i := by
      generalize n / 2 ^ i = p at ho ⊢
      omega
    rw [rsN_row, rsN_at n i _ hpos, toyHC _ _ _ _ _ _ _ _ (hsz i (by omega) _) (hsz i (by omega) _)]
    have h2 : n / 2 ^ (i + 1) = n / 2 ^ i / 2 := by rw [Nat.pow_succ, Nat.div_div_eq_div_mul]
    refine congrArg some ?_
    show _ = nd a0 a2 a5 hl (i + 1) (n / 2 ^ (i + 1))
    rw [nd, h2]
    generalize n / 2 ^ i = p at ho ⊢
    rw [show 2 * (p / 2) = p - 1 by omega, show p - 1 + 1 = p by omega]
  · refine ext_getD ?_ fun i => ?_
    · rw [rsN_len, upT_len, rsN_len]
      by_cases he : m = bl n
      · rw [if_pos he]
        have h1 : ¬ 2 ^ m ≤ n := fun hh => by
          have := lt_bl.2 hh
          omega
        have h2 : m < bl (n + 1) := lt_bl.2 hle
        have h3 : ¬ m + 1 < bl (n + 1) := fun hh => by
          have := lt_bl.1 hh
          rw [Nat.pow_succ] at this
          omega
        omega
      · rw [if_neg he]
        have h1 : ¬ 2 ^ bl n ≤ n := fun hh => by
          have := lt_bl.2 hh
          omega
        have h2 : ¬ bl n < bl (n + 1) := fun hh => by
          have h4 := lt_bl.1 hh
          have h5 : n + 1 = 2 ^ bl n := by omega
          have h6 : 2 ^ bl n ∣ 2 ^ m * (2 * q + 1) := by
            rw [← hq, h5]
            exact Nat.dvd_refl _
          have := Core.odd_pow h6
          omega
        have h3 : bl n ≤ bl (n + 1) := by
          rcases Nat.eq_zero_or_pos (bl n) with h0 | h0
          · omega
          · have h4 : bl n - 1 < bl n := by omega
            have h5 : bl n - 1 < bl (n + 1) := lt_bl.2 (Nat.le_succ_of_le (lt_bl.1 h4))
            omega
        omega
    · rw [upT_get _ _ _ (by rw [rsN_len]; exact hml), rsN_get, rsN_get]
      have hpi := Nat.two_pow_pos i
      by_cases hi : i ≤ m
      · obtain ⟨u, hu⟩ := hdvd i hi
        have hu1 : 1 ≤ u := by
          rcases Nat.eq_zero_or_pos u with h0 | h0
          · rw [h0] at hu
            omega
          · exact h0
        have hus : 2 ^ i * u = 2 ^ i * (u - 1) + 2 ^ i := by
          rw [← Nat.mul_succ]
          congr 1
          omega
        have e1 : (n + 1) / 2 ^ i = u := by rw [hu, Nat.mul_div_cancel_left _ hpi]
        have e2 : n / 2 ^ i = u - 1 := by
          rw [show n = 2 ^ i * (u - 1) + (2 ^ i - 1) by omega, Nat.mul_add_div hpi, Nat.div_eq_of_lt (by omega), Nat.add_zero]
        rw [if_pos hi, e1, e2]
        conv => lhs; rw [show u = u - 1 + 1 by omega]
        rw [List.range_succ, List.map_append]
        rfl
      · rw [if_neg hi]
        have hnd : ¬ 2 ^ i ∣ n + 1 := fun hh => by
          rw [hq] at hh
          have := Core.odd_pow hh
          omega
        have e1 := Nat.div_add_mod n (2 ^ i)
        have e2 := Nat.mod_lt n hpi
        have e3 : n % 2 ^ i + 1 ≠ 2 ^ i := fun hh => hnd ⟨n / 2 ^ i + 1, by rw [Nat.mul_add, Nat.mul_one]; omega⟩
        have e4 : (n + 1) / 2 ^ i = n / 2 ^ i := by
          conv => lhs; rw [show n + 1 = 2 ^ i * (n / 2 ^ i) + (n % 2 ^ i + 1) by omega]
          rw [Nat.mul_add_div hpi, Nat.div_eq_of_lt (show n % 2 ^ i + 1 < 2 ^ i by omega), Nat.add_zero]
        rw [e4]
end Go.Proofs.YtfhcpniibiobgaaDoor.Pure
namespace Go.Proofs.YtfhcpniibiobgaaDoor.Pure
open Go.RowKit Go.Proofs.YtfhcpniibiobgaaDoorW.PrintWords Go.Proofs.YtfhcpniibiobgaaDoorW.PrintMore Go.Proofs.YtfhcpniibiobgaaDoorW.PrintLast
open Hs (CB CL)

/-- The hash of the tree over the leaf hashes g b .. g (e - 1). -/
def mt (a0 a2 a5 : Int) (g : Nat → List Int) : Nat → Nat → Nat → List Int
  | 0, b, _ => g b
  | T + 1, b, e => if e - b ≤ 1 then g b else hcF a0 a2 a5 (mt a0 a2 a5 g T b (b + 2 ^ Nat.log2 (e - b - 1))) (mt a0 a2 a5 g T (b + 2 ^ Nat.log2 (e - b - 1)) e)
theorem cut_at {n : Nat} (h : 2 ≤ n) : 2 ^ Nat.log2 (n - 1) < n ∧ n ≤ 2 ^ (Nat.log2 (n - 1) + 1) := by
  have n0 : n - 1 ≠ 0 := by omega
  have h1 := Nat.log2_self_le n0
  have h2 := Nat.lt_log2_self (n := n - 1)
  omega
theorem log_is {n t : Nat} (h1 : 2 ^ t < n) (h2 : n ≤ 2 ^ (t + 1)) : Nat.log2 (n - 1) = t := by
  have hp := Nat.two_pow_pos t
  obtain ⟨g1, g2⟩ := cut_at (n := n) (by omega)
  generalize Nat.log2 (n - 1) = s at g1 g2
  have e1 : s < t + 1 := (Nat.pow_lt_pow_iff_right (by omega : 1 < 2)).1 (Nat.lt_of_lt_of_le g1 h2)
  have e2 : t < s + 1 := (Nat.pow_lt_pow_iff_right (by omega : 1 < 2)).1 (Nat.lt_of_lt_of_le h1 g2)
  omega
section
variable {a0 a1 a2 a3 a4 a5 : Int} {g g' : Nat → List Int}
theorem mt_cut {T b e t : Nat} (h1 : 2 ^ t < e - b) (h2 : e - b ≤ 2 ^ (t + 1)) : mt a0 a2 a5 g (T + 1) b e = hcF a0 a2 a5 (mt a0 a2 a5 g T b (b + 2 ^ t)) (mt a0 a2 a5 g T (b + 2 ^ t) e) := by
  have hp := Nat.two_pow_pos t
  rw [mt, if_neg (by omega), log_is h1 h2]
theorem mt_one {T b e : Nat} (h : e - b ≤ 1) : mt a0 a2 a5 g T b e = g b := by
  cases T with
  | zero => rfl
  | succ T => rw [mt, if_pos h]
theorem fuel_of {T t n : Nat} (h1 : 2 ^ t < n) (h2 : n ≤ 2 ^ (T + 1)) : t ≤ T := by
  have : t < T + 1 := (Nat.pow_lt_pow_iff_right (by omega : 1 < 2)).1 (Nat.lt_of_lt_of_le h1 h2)
  omega
/-- Leaf hashes that are the same, wherever they lie, with fuel enough. -/
theorem mt_shift : ∀ (T T' b e b' e' : Nat), e - b ≤ 2 ^ T → e - b ≤ 2 ^ T' → b < e → b' < e' → e' - b' = e - b → (∀ i, i < e - b → g (b + i) = g' (b' + i)) → mt a0 a2 a5 g T b e = mt a0 a2 a5 g' T' b' e' := by
  intro T
  induction T with
  | zero =>
    intro T' b e b' e' h1 h2 hb hb' he hg
    rw [Nat.pow_zero] at h1
    rw [mt_one (by omega), mt_one (by omega)]
    exact hg 0 (by omega)
  | succ T ih =>
    intro T' b e b' e' h1 h2 hb hb' he hg
    by_cases h : e - b ≤ 1
    · rw [mt_one h, mt_one (by omega)]
      exact hg 0 (by omega)
    · obtain ⟨g1, g2⟩ := cut_at (n := e - b) (by omega)
      generalize Nat.log2 (e - b - 1) = t at g1 g2
      have hp := Nat.two_pow_pos t
      have hq : 2 ^ (t + 1) = 2 * 2 ^ t := by rw [Nat.pow_succ, Nat.mul_comm]
      cases T' with
      | zero =>
        rw [Nat.pow_zero] at h2
        omega
      | succ T' =>
        have f1 := fuel_of g1 h1
        have f2 := fuel_of g1 h2
        have p1 : 2 ^ t ≤ 2 ^ T := Nat.pow_le_pow_right (by omega) f1
        have p2 : 2 ^ t ≤ 2 ^ T' := Nat.pow_le_pow_right (by omega) f2
        rw [mt_cut g1 g2, mt_cut (t := t) (by omega) (by omega)]
        rw [ih T' b (b + 2 ^ t) b' (b' + 2 ^ t) (by omega) (by omega) (by omega) (by omega) (by omega) (fun i hi => hg i (by omega)), ih T' (b + 2 ^ t) e (b' + 2 ^ t) e' (by omega) (by omega) (by omega) (by omega) (by omega) (fun i hi => by
          have := hg (2 ^ t + i) (by omega)
          rwa [← Nat.add_assoc, ← Nat.add_assoc] at this)]
theorem mt_fuel {T T' b e : Nat} (h1 : e - b ≤ 2 ^ T) (h2 : e - b ≤ 2 ^ T') (hb : b < e) : mt a0 a2 a5 g T b e = mt a0 a2 a5 g T' b e := mt_shift T T' b e b e h1 h2 hb hb rfl fun _ _ => rfl
theorem mt_len (h : ∀ i, (g i).length ≤ 5010) : ∀ (T b e : Nat), e - b ≤ 2 ^ T → b < e → (mt a0 a2 a5 g T b e).length + 9 ≤ (e - b) * 5020
  | 0, b, e, hw, hb => by
    have := h b
    rw [mt]
    omega
  | T + 1, b, e, hw, hb => by
    by_cases h1 : e - b ≤ 1
    · have := h b
      rw [mt_one h1]
      omega
    · obtain ⟨g1, g2⟩ := cut_at (n := e - b) (by omega)
      generalize Nat.log2 (e - b - 1) = t at g1 g2
      have hp := Nat.two_pow_pos t
      have hq : 2 ^ (t + 1) = 2 * 2 ^ t := by rw [Nat.pow_succ, Nat.mul_comm]
      have p1 : 2 ^ t ≤ 2 ^ T := Nat.pow_le_pow_right (by omega) (fuel_of g1 hw)
      have i1 := mt_len h T b (b + 2 ^ t) (by omega) (by omega)
      have i2 := mt_len h T (b + 2 ^ t) e (by omega) (by omega)
      rw [mt_cut g1 g2]
      have := hcF_len a0 a2 a5 (mt a0 a2 a5 g T b (b + 2 ^ t)) (mt a0 a2 a5 g T (b + 2 ^ t) e)
      omega
/-- The reference's root. -/
theorem spec_root (M : List (List Int)) : ∀ (T k : Nat) (L : List (List Int)) (b : Nat), 0 < L.length → L.length ≤ 2 ^ T → L.length ≤ 300 → 4000000 + T ≤ k → (∀ i, (M.getD i []).length ≤ 5010) → (∀ i, i < L.length → L.getD i [] = M.getD (b + i) []) → Qf.spec_Root.f k a0 a1 a2 a3 a4 a5 L = some (mt a0 a2 a5 (fun i => M.getD i []) T b (b + L.length)) := by
  intro T
  induction T with
  | zero =>
    intro k L b hp hw h300 hk hM hL
    obtain ⟨k, rfl⟩ : ∃ k', k = k' + 1 := ⟨k - 1, by omega⟩
    rw [Nat.pow_zero] at hw
    rw [Qf.spec_Root.f, if_neg (by omega), if_pos (by omega), if_pos (by omega), mt_one (by omega)]
    exact congrArg some (hL 0 hp)
  | succ T ih =>
    intro k L b hp hw h300 hk hM hL
    obtain ⟨k, rfl⟩ : ∃ k', k = k' + 1 := ⟨k - 1, by omega⟩
    by_cases h1 : L.length ≤ 1
    · rw [Qf.spec_Root.f, if_neg (by omega), if_pos (by omega), if_pos (by omega), mt_one (by omega)]
      exact congrArg some (hL 0 hp)
    · obtain ⟨g1, g2⟩ := cut_at (n := L.length) (by omega)
      generalize Nat.log2 (L.length - 1) = t at g1 g2
      have hpt := Nat.two_pow_pos t
      have hq : 2 ^ (t + 1) = 2 * 2 ^ t := by rw [Nat.pow_succ, Nat.mul_comm]
      have p1 : 2 ^ t ≤ 2 ^ T := Nat.pow_le_pow_right (by omega) (fuel_of g1 hw)
      have ht : t < 64 := by
        have : 2 ^ t < 2 ^ 64 := by omega
        exact (Nat.pow_lt_pow_iff_right (by omega)).1 this
      have hsp : Qf.spec_split.f k ((L.length : Nat) : Int) = some ((2 ^ t : Nat) : Int) := split_go L.length t (by omega) g1 g2 t 0 k (by omega) (by omega)
      have tl : (L.take (2 ^ t)).length = 2 ^ t := by rw [List.length_take]; omega
      have dl : (L.drop (2 ^ t)).length = L.length - 2 ^ t := List.length_drop
      have i1 := ih k (L.take (2 ^ t)) b (by omega) (by omega) (by omega) (by omega) hM (fun i hi => by
        rw [← hL i (by omega), List.getD_eq_getElem?_getD, List.getD_eq_getElem?_getD, List.getElem?_take_of_lt (by omega)])
      have i2 := ih k (L.drop (2 ^ t)) (b + 2 ^ t) (by omega) (by omega) (by omega) (by omega) hM (fun i hi => by
        rw [Nat.add_assoc, ← hL (2 ^ t + i) (by omega), List.getD_eq_getElem?_getD, List.getD_eq_getElem?_getD, List.getElem?_drop])
      rw [tl] at i1
      rw [dl, show b + 2 ^ t + (L.length - 2 ^ t) = b + L.length by omega] at i2
      have l1 := mt_len (a0 := a0) (a2 := a2) (a5 := a5) hM T b (b + 2 ^ t) (by omega) (by omega)
      have l2 := mt_len (a0 := a0) (a2 := a2) (a5 := a5) hM T (b + 2 ^ t) (b + L.length) (by omega) (by omega)
      rw [Qf.spec_Root.f, if_neg (by omega), if_neg (by omega), wu _ (by omega), hsp, Option.bind_some, if_pos (by omega), if_pos (by omega), Int.toNat_natCast, i1, Option.bind_some, i2, Option.bind_some, specHC a0 a1 a2 a3 a4 a5 _ _ (by omega) (by omega) k (by omega), Option.bind_some, mt_cut (t := t) (by omega) (by omega)]
/-- A whole node of the tree. -/
theorem nd_mt : ∀ (l i T : Nat), l ≤ T → nd a0 a2 a5 g l i = mt a0 a2 a5 g T (i * 2 ^ l) ((i + 1) * 2 ^ l)
  | 0, i, T, _ => by
    rw [Nat.pow_zero, Nat.mul_one, Nat.mul_one, mt_one (by omega), nd]
  | l + 1, i, T, h => by
    obtain ⟨T, rfl⟩ : ∃ T', T = T' + 1 := ⟨T - 1, by omega⟩
    have hp := Nat.two_pow_pos l
    have hq : 2 ^ (l + 1) = 2 * 2 ^ l := by rw [Nat.pow_succ, Nat.mul_comm]
    have e1 : (i + 1) * 2 ^ (l + 1) = i * 2 ^ (l + 1) + 2 ^ (l + 1) := Nat.succ_mul _ _
    have q1 : i * 2 ^ (l + 1) = 2 * i * 2 ^ l := by rw [hq, ← Nat.mul_assoc, Nat.mul_comm i 2]
    have e2 : (2 * i + 1) * 2 ^ l = 2 * i * 2 ^ l + 2 ^ l := Nat.succ_mul _ _
    have e3 : (2 * i + 1 + 1) * 2 ^ l = (2 * i + 1) * 2 ^ l + 2 ^ l := Nat.succ_mul _ _
    have i1 := nd_mt l (2 * i) T (by omega)
    have i2 := nd_mt l (2 * i + 1) T (by omega)
    rw [nd, i1, i2, mt_cut (t := l) (by omega) (by omega), q1, e2, e1, q1, e3, e2, hq, show 2 * i * 2 ^ l + 2 ^ l + 2 ^ l = 2 * i * 2 ^ l + 2 * 2 ^ l by omega]
/-- Hashes put together from the last one on. -/
def crown (a0 a2 a5 : Int) : List (List Int) → List Int
  | [] => []
  | [x] => x
  | x :: y :: l => hcF a0 a2 a5 x (crown a0 a2 a5 (y :: l))
theorem chB_append (a0 a2 a5 : Int) : ∀ (l m : List (List Int)) (s : List Int), chB a0 a2 a5 (l ++ m) s = chB a0 a2 a5 m (chB a0 a2 a5 l s)
  | [], m, s => rfl
  | h :: t, m, s => by rw [List.cons_append, chB, chB, chB_append a0 a2 a5 t m]
theorem crown_chB : ∀ (W : List (List Int)), 0 < W.length → chB a0 a2 a5 (W.take (W.length - 1)).reverse (W.getD (W.length - 1) []) = crown a0 a2 a5 W
  | [], h => by simp at h
  | [x], _ => rfl
  | x :: y :: l, _ => by
    have ih := crown_chB (y :: l) (by simp)
    have e1 : (x :: y :: l).length - 1 = (y :: l).length - 1 + 1 := by simp
    rw [e1, List.take_succ_cons, List.reverse_cons, chB_append, List.getD_cons_succ, ih, crown]
    rfl
end
end Go.Proofs.YtfhcpniibiobgaaDoor.Pure
namespace Go.Proofs.YtfhcpniibiobgaaDoor.Pure
open Go.RowKit Go.Proofs.YtfhcpniibiobgaaDoorW.PrintWords Go.Proofs.YtfhcpniibiobgaaDoorW.PrintMore Go.Proofs.YtfhcpniibiobgaaDoorW.PrintLast
open Go.Proofs.YtfhcpniibiobgaaDoor.M (IsN Chain isN_nil isN_one isN_cons isN_same isN_uniq tp tp_lt tp_le partsN sibs sibs_length sibs_last xor1_even xor1_odd PIn pow_odd half_odd half_even)

section
variable {a0 a2 a5 : Int} {g : Nat → List Int}
/-- The nodes of a range that fits: their crown is the hash of the tree. -/
theorem crown_ex : ∀ (n k e t : Nat), e - k = n → 2 ^ t ∣ k → k < e → e - k ≤ 2 ^ t → e < 2 ^ 64 → ∃ W, IsN k e W ∧ W ≠ [] ∧ crown a0 a2 a5 (W.map fun x => nd a0 a2 a5 g x.1 x.2) = mt a0 a2 a5 g 64 k e := fun n => by
  induction n using Nat.strongRecOn with
  | _ n ih =>
    intro k e t hn hd hlt hle h64
    have n0 : e - k ≠ 0 := by omega
    have h1 := Nat.log2_self_le n0
    have h2 := Nat.lt_log2_self (n := e - k)
    generalize Nat.log2 (e - k) = s at h1 h2
    have hp := Nat.two_pow_pos s
    have hst : s ≤ t := (Nat.pow_le_pow_iff_right (by omega : 1 < 2)).1 (Nat.le_trans h1 hle)
    have hs64 : s < 64 := (Nat.pow_lt_pow_iff_right (by omega : 1 < 2)).1 (show 2 ^ s < 2 ^ 64 by omega)
    have hds : 2 ^ s ∣ k := Nat.dvd_trans (Nat.pow_dvd_pow 2 hst) hd
    have e1 : k / 2 ^ s * 2 ^ s = k := Nat.div_mul_cancel hds
    have e2 : (k / 2 ^ s + 1) * 2 ^ s = k + 2 ^ s := by rw [Nat.add_mul, Nat.one_mul, e1]
    have hnd := nd_mt (a0 := a0) (a2 := a2) (a5 := a5) (g := g) s (k / 2 ^ s) 64 (by omega)
    rw [e1, e2] at hnd
    by_cases he : e - k = 2 ^ s
    · refine ⟨[(s, k / 2 ^ s)], isN_one hds (by omega), by simp, ?_⟩
      show nd a0 a2 a5 g s (k / 2 ^ s) = _
      rw [hnd, show k + 2 ^ s = e by omega]
    · have hq : 2 ^ (s + 1) = 2 * 2 ^ s := by rw [Nat.pow_succ, Nat.mul_comm]
      have hlt2 : s + 1 ≤ t := by
        have : 2 ^ s < 2 ^ t := by omega
        exact (Nat.pow_lt_pow_iff_right (by omega : 1 < 2)).1 this
      have hd1 : 2 ^ (s + 1) ∣ k := Nat.dvd_trans (Nat.pow_dvd_pow 2 hlt2) hd
      obtain ⟨W, hW, hne, hc⟩ := ih (e - (k + 2 ^ s)) (by omega) (k + 2 ^ s) e s rfl (Nat.dvd_add hds (Nat.dvd_refl _)) (by omega) (by omega) h64
      refine ⟨(s, k / 2 ^ s) :: W, isN_cons hd1 rfl (by omega) hW, by simp, ?_⟩
      rcases W with _ | ⟨y, W⟩
      · exact absurd rfl hne
      · rw [List.map_cons] at hc
        rw [List.map_cons, List.map_cons, crown, hc]
        have hcut : mt a0 a2 a5 g (63 + 1) k e = _ := mt_cut (T := 63) (t := s) (by omega) (by omega)
        show hcF a0 a2 a5 (nd a0 a2 a5 g s (k / 2 ^ s)) _ = mt a0 a2 a5 g (63 + 1) k e
        have p63 : 2 ^ s ≤ 2 ^ 63 := Nat.pow_le_pow_right (by omega) (by omega)
        rw [hcut, hnd, mt_fuel (T := 64) (T' := 63) (b := k) (e := k + 2 ^ s) (by omega) (by omega) (by omega), mt_fuel (T := 64) (T' := 63) (b := k + 2 ^ s) (e := e) (by omega) (by omega) (by omega)]
theorem crown_of {k e t : Nat} {W : List (Nat × Nat)} (h : IsN k e W) (hd : 2 ^ t ∣ k) (hlt : k < e) (hle : e - k ≤ 2 ^ t) (h64 : e < 2 ^ 64) : W ≠ [] ∧ crown a0 a2 a5 (W.map fun x => nd a0 a2 a5 g x.1 x.2) = mt a0 a2 a5 g 64 k e := by
  obtain ⟨W', h1, h2, h3⟩ := crown_ex (a0 := a0) (a2 := a2) (a5 := a5) (g := g) (e - k) k e t rfl hd hlt hle h64
  obtain rfl := isN_uniq h h1
  exact ⟨h2, h3⟩
/-- A node's hash, a part's hash. -/
abbrev ndP (a0 a2 a5 : Int) (g : Nat → List Int) (x : Nat × Nat) : List Int := nd a0 a2 a5 g x.1 x.2
abbrev mtP (a0 a2 a5 : Int) (g : Nat → List Int) (x : Nat × Nat) : List Int := mt a0 a2 a5 g 64 x.1 x.2
/-- The hashes of the parts, by nodes. -/
def hashesOf (a0 a2 a5 : Int) (g : Nat → List Int) (c l i : Nat) (Rt Lf : List (Nat × Nat)) : List (List Int) :=
  (sibs c l i).map (ndP a0 a2 a5 g) ++ (if Rt.length = 0 then [] else [crown a0 a2 a5 (Rt.map (ndP a0 a2 a5 g))]) ++ Lf.reverse.map (ndP a0 a2 a5 g)
/-- THE WAY UP, in hashes. -/
theorem parts_hash (l i : Nat) : ∀ (F T b e : Nat), T ≤ F → F ≤ 64 → 2 ^ T ∣ b → e - b ≤ 2 ^ T → b ≤ i * 2 ^ l → (i + 1) * 2 ^ l ≤ e → e < 2 ^ 64 →
    ∃ c u r Rt Lf, PIn l i b e c u r ∧ IsN ((i / 2 ^ c + 1) * 2 ^ (l + c)) e Rt ∧ IsN b (i / 2 ^ c * 2 ^ (l + c)) Lf ∧
      (partsN F (i * 2 ^ l) ((i + 1) * 2 ^ l) b e).map (mtP a0 a2 a5 g) = hashesOf a0 a2 a5 g c l i Rt Lf ∧ ∀ p, p ∈ partsN F (i * 2 ^ l) ((i + 1) * 2 ^ l) b e → p.1 < p.2 ∧ p.2 ≤ e := by
  have hP := Nat.two_pow_pos l
  have hbase : ∀ (F b e : Nat), b = i * 2 ^ l → e = (i + 1) * 2 ^ l → ∃ c u r Rt Lf, PIn l i b e c u r ∧ IsN ((i / 2 ^ c + 1) * 2 ^ (l + c)) e Rt ∧ IsN b (i / 2 ^ c * 2 ^ (l + c)) Lf ∧
      (partsN F (i * 2 ^ l) ((i + 1) * 2 ^ l) b e).map (mtP a0 a2 a5 g) = hashesOf a0 a2 a5 g c l i Rt Lf ∧ ∀ p, p ∈ partsN F (i * 2 ^ l) ((i + 1) * 2 ^ l) b e → p.1 < p.2 ∧ p.2 ≤ e := by
    rintro F b e rfl rfl
    refine ⟨0, 0, 0, [], [], ⟨by simp, by simp [Nat.add_mul], hP⟩, by simpa using isN_nil _, by simpa using isN_nil _, ?_⟩
    have hp : partsN F (i * 2 ^ l) ((i + 1) * 2 ^ l) (i * 2 ^ l) ((i + 1) * 2 ^ l) = [] := by
      cases F with
      | zero => rfl
      | succ F => rw [partsN, if_pos ⟨rfl, rfl⟩]
    rw [hp]
    exact ⟨rfl, fun p h => by simp at h⟩
  intro F
  induction F with
  | zero =>
    intro T b e hT hF hd hn hb he _
    obtain rfl : T = 0 := by omega
    have hn1 : e - b ≤ 1 := by simpa using hn
    have e1 : (i + 1) * 2 ^ l = i * 2 ^ l + 2 ^ l := by rw [Nat.add_mul, Nat.one_mul]
    rw [e1] at he
    exact hbase 0 b e (by omega) (by rw [e1]; omega)
  | succ F ih =>
    intro T b e hT hF hd hn hb he h64
    by_cases hbe : b = i * 2 ^ l ∧ e = (i + 1) * 2 ^ l
    · exact hbase (F + 1) b e hbe.1 hbe.2
    have e1 : (i + 1) * 2 ^ l = i * 2 ^ l + 2 ^ l := by rw [Nat.add_mul, Nat.one_mul]
    have hn2 : 2 ^ l < e - b := by rw [e1] at he hbe; omega
    have g1 := tp_lt (n := e - b) (by omega)
    have g2 := tp_le (n := e - b) (by omega)
    have hpart : partsN (F + 1) (i * 2 ^ l) ((i + 1) * 2 ^ l) b e = if (i + 1) * 2 ^ l ≤ b + 2 ^ tp (e - b) then partsN F (i * 2 ^ l) ((i + 1) * 2 ^ l) b (b + 2 ^ tp (e - b)) ++ [(b + 2 ^ tp (e - b), e)] else partsN F (i * 2 ^ l) ((i + 1) * 2 ^ l) (b + 2 ^ tp (e - b)) e ++ [(b, b + 2 ^ tp (e - b))] := by
      rw [partsN, if_neg hbe]
    rw [hpart]
    clear hpart
    generalize tp (e - b) = t at *
    have htT : t < T := by
      have : 2 ^ t < 2 ^ T := Nat.lt_of_lt_of_le g1 hn
      exact (Nat.pow_lt_pow_iff_right (by omega)).1 this
    have hlt : l ≤ t := by
      have : 2 ^ l < 2 ^ (t + 1) := Nat.lt_of_lt_of_le hn2 g2
      have := (Nat.pow_lt_pow_iff_right (a := 2) (by omega)).1 this
      omega
    have hb1 : 2 ^ (t + 1) ∣ b := Nat.dvd_trans (Nat.pow_dvd_pow 2 htT) hd
    have hb0 : 2 ^ t ∣ b := Nat.dvd_trans (Nat.pow_dvd_pow 2 (Nat.le_succ t)) hb1
    have ht0 := Nat.two_pow_pos t
    obtain ⟨k, hk⟩ : ∃ k, k = b + 2 ^ t := ⟨_, rfl⟩
    have hkd : 2 ^ t ∣ k := by rw [hk]; exact Nat.dvd_add hb0 (Nat.dvd_refl _)
    rw [← hk]
    by_cases hx : (i + 1) * 2 ^ l ≤ k
    · -- to the left
      rw [if_pos hx]
      obtain ⟨c, u, r, Rt, Lf, hp, hR, hL, hS, hI⟩ := ih t b k (by omega) (by omega) hb0 (by omega) hb hx (by omega)
      have hpo := pow_odd hp.r (show (2 * u + 1) * 2 ^ (l + c) + r = 2 ^ t by have := hp.hi; omega)
      obtain ⟨rfl, rfl, rfl⟩ := hpo
      have elo : i / 2 ^ c * 2 ^ (l + c) = b := by have := hp.lo; omega
      have ehi : (i / 2 ^ c + 1) * 2 ^ (l + c) = k := by rw [Nat.add_mul, elo]; omega
      rw [ehi] at hR
      rw [elo] at hL
      obtain rfl := isN_same hR
      obtain rfl := isN_same hL
      rw [show hashesOf a0 a2 a5 g c l i [] [] = (sibs c l i).map (ndP a0 a2 a5 g) by simp [hashesOf]] at hS
      have hdivk : k / 2 ^ (l + c) = i / 2 ^ c + 1 := by rw [← ehi]; exact Nat.mul_div_cancel _ ht0
      by_cases hr : e - k = 2 ^ (l + c)
      · -- as long
        have heven : i / 2 ^ c % 2 = 0 := by
          obtain ⟨v, hv⟩ := hb1
          rw [← elo, Nat.pow_succ, Nat.mul_assoc, Nat.mul_comm (2 ^ (l + c))] at hv
          have := Nat.eq_of_mul_eq_mul_right ht0 hv
          omega
        have hhalf : i / 2 ^ (c + 1) * 2 ^ (l + (c + 1)) = b := by
          rw [Nat.pow_succ, ← Nat.div_div_eq_div_mul, show l + (c + 1) = l + c + 1 by omega, Nat.pow_succ, Nat.mul_comm (2 ^ (l + c)) 2, ← Nat.mul_assoc, half_even heven]
          exact elo
        have hpow : 2 ^ (l + (c + 1)) = 2 ^ (l + c) * 2 := by rw [show l + (c + 1) = l + c + 1 by omega, Nat.pow_succ]
        refine ⟨c + 1, 0, 0, [], [], ⟨by rw [hhalf]; omega, by rw [hpow]; omega, by rw [hpow]; omega⟩, ?_, ?_, ?_⟩
        · rw [Nat.add_mul, hhalf, hpow, show b + 1 * (2 ^ (l + c) * 2) = e by omega]; exact isN_nil e
        · rw [hhalf]; exact isN_nil b
        · refine ⟨?_, fun p hp2 => ?_⟩
          · rw [List.map_append, hS, show hashesOf a0 a2 a5 g (c + 1) l i [] [] = (sibs (c + 1) l i).map (ndP a0 a2 a5 g) by simp [hashesOf], sibs_last, xor1_even heven, List.map_append]
            have hnd := nd_mt (a0 := a0) (a2 := a2) (a5 := a5) (g := g) (l + c) (i / 2 ^ c + 1) 64 (by omega)
            rw [ehi, Nat.add_mul, ehi, show k + 1 * 2 ^ (l + c) = e by omega] at hnd
            show _ ++ [mt a0 a2 a5 g 64 k e] = _ ++ [nd a0 a2 a5 g (l + c) (i / 2 ^ c + 1)]
            rw [hnd]
          · rcases List.mem_append.1 hp2 with hp2 | hp2
            · have := hI p hp2
              omega
            · obtain rfl := List.mem_singleton.1 hp2
              exact ⟨by show k < e; omega, by show e ≤ e; omega⟩
      · -- shorter
        obtain ⟨W, hW, hne, hcr⟩ := crown_ex (a0 := a0) (a2 := a2) (a5 := a5) (g := g) (e - k) k e (l + c) rfl hkd (by omega) (by rw [Nat.pow_succ] at g2; omega) h64
        refine ⟨c, 0, e - k, W, [], ⟨by rw [elo]; omega, by omega, by rw [Nat.pow_succ] at g2; omega⟩, by rw [ehi]; exact hW, by rw [elo]; exact isN_nil b, ?_⟩
        have hWl : W.length ≠ 0 := fun h => hne (List.eq_nil_of_length_eq_zero h)
        refine ⟨?_, fun p hp2 => ?_⟩
        · rw [List.map_append, hS]
          unfold hashesOf
          rw [if_neg hWl]
          show _ ++ [mt a0 a2 a5 g 64 k e] = _ ++ [crown a0 a2 a5 (W.map fun x => nd a0 a2 a5 g x.1 x.2)] ++ []
          rw [hcr, List.append_nil]
        · rcases List.mem_append.1 hp2 with hp2 | hp2
          · have := hI p hp2
            omega
          · obtain rfl := List.mem_singleton.1 hp2
            exact ⟨by show k < e; omega, by show e ≤ e; omega⟩
    · -- to the right
      rw [if_neg hx]
      have hy : k ≤ i * 2 ^ l := by
        obtain ⟨v, hv⟩ := Nat.dvd_trans (Nat.pow_dvd_pow 2 hlt) hkd
        rw [hv, Nat.mul_comm (2 ^ l) v] at hx ⊢
        have h3 : v < i + 1 := by
          rcases Nat.lt_or_ge v (i + 1) with h | h
          · exact h
          · exact absurd (Nat.mul_le_mul_right (2 ^ l) h) hx
        exact Nat.mul_le_mul_right _ (by omega)
      rw [Nat.pow_succ] at g2
      obtain ⟨c, u, r, Rt, Lf, hp, hR, hL, hS, hI⟩ := ih t k e (by omega) (by omega) hkd (by omega) hy he h64
      have hkb : k / 2 ^ t = b / 2 ^ t + 1 := by rw [hk, Nat.add_div_right _ ht0]
      have hbm : b / 2 ^ t * 2 ^ t = b := Nat.div_mul_cancel hb0
      have hnd := nd_mt (a0 := a0) (a2 := a2) (a5 := a5) (g := g) t (b / 2 ^ t) 64 (by omega)
      rw [Nat.add_mul, hbm, Nat.one_mul, ← hk] at hnd
      by_cases hr : e - k = 2 ^ t
      · have hpo := pow_odd hp.r (show (2 * u + 1) * 2 ^ (l + c) + r = 2 ^ t by have := hp.hi; omega)
        obtain ⟨rfl, rfl, rfl⟩ := hpo
        have elo : i / 2 ^ c * 2 ^ (l + c) = k := by have := hp.lo; omega
        have ehi : (i / 2 ^ c + 1) * 2 ^ (l + c) = e := by rw [Nat.add_mul, elo]; omega
        rw [ehi] at hR
        rw [elo] at hL
        obtain rfl := isN_same hR
        obtain rfl := isN_same hL
        have hdivk : k / 2 ^ (l + c) = i / 2 ^ c := by rw [← elo]; exact Nat.mul_div_cancel _ ht0
        have hodd : i / 2 ^ c % 2 = 1 := by
          obtain ⟨v, hv⟩ := hb1
          have hbv : b / 2 ^ (l + c) = 2 * v := by
            rw [hv, Nat.pow_succ, Nat.mul_assoc]
            exact Nat.mul_div_cancel_left _ ht0
          omega
        have hbq : b = (i / 2 ^ c - 1) * 2 ^ (l + c) := by
          rw [Nat.sub_mul, elo]; omega
        have hhalf : i / 2 ^ (c + 1) * 2 ^ (l + (c + 1)) = b := by
          rw [Nat.pow_succ, ← Nat.div_div_eq_div_mul, show l + (c + 1) = l + c + 1 by omega, Nat.pow_succ, Nat.mul_comm (2 ^ (l + c)) 2, ← Nat.mul_assoc, half_odd hodd]
          exact hbq.symm
        have hpow : 2 ^ (l + (c + 1)) = 2 ^ (l + c) * 2 := by rw [show l + (c + 1) = l + c + 1 by omega, Nat.pow_succ]
        refine ⟨c + 1, 0, 0, [], [], ⟨by rw [hhalf]; omega, by rw [hpow]; omega, by rw [hpow]; omega⟩, ?_, ?_, ?_⟩
        · rw [Nat.add_mul, hhalf, hpow, show b + 1 * (2 ^ (l + c) * 2) = e by omega]; exact isN_nil e
        · rw [hhalf]; exact isN_nil b
        · refine ⟨?_, fun p hp2 => ?_⟩
          · rw [show hashesOf a0 a2 a5 g c l i [] [] = (sibs c l i).map (ndP a0 a2 a5 g) by simp [hashesOf]] at hS
            rw [List.map_append, hS, show hashesOf a0 a2 a5 g (c + 1) l i [] [] = (sibs (c + 1) l i).map (ndP a0 a2 a5 g) by simp [hashesOf], sibs_last, xor1_odd hodd, List.map_append, show i / 2 ^ c - 1 = b / 2 ^ (l + c) by rw [← hdivk, hkb]; rfl]
            show _ ++ [mt a0 a2 a5 g 64 b k] = _ ++ [nd a0 a2 a5 g (l + c) (b / 2 ^ (l + c))]
            rw [hnd]
          · rcases List.mem_append.1 hp2 with hp2 | hp2
            · have := hI p hp2
              omega
            · obtain rfl := List.mem_singleton.1 hp2
              exact ⟨by show b < k; omega, by show k ≤ e; omega⟩
      · have hLt : l + c < t := by
          have h3 : 2 ^ (l + c) < 2 ^ t := by
            have := hp.hi
            have h4 : 2 ^ (l + c) ≤ (2 * u + 1) * 2 ^ (l + c) := Nat.le_mul_of_pos_left _ (by omega)
            omega
          exact (Nat.pow_lt_pow_iff_right (by omega)).1 h3
        have hpt : 2 * 2 ^ (t - (l + c) - 1) * 2 ^ (l + c) = 2 ^ t := by
          rw [← Nat.pow_succ', ← Nat.pow_add]
          congr 1
          omega
        refine ⟨c, u + 2 ^ (t - (l + c) - 1), r, Rt, (t, b / 2 ^ t) :: Lf, ⟨?_, ?_, hp.r⟩, hR, ?_, ?_⟩
        · rw [Nat.mul_add, Nat.add_mul, hpt]
          have h5 := hp.lo
          generalize 2 * u * 2 ^ (l + c) = A at *
          omega
        · rw [show 2 * (u + 2 ^ (t - (l + c) - 1)) + 1 = 2 * 2 ^ (t - (l + c) - 1) + (2 * u + 1) by omega, Nat.add_mul, hpt]
          have h5 := hp.hi
          generalize (2 * u + 1) * 2 ^ (l + c) = A at *
          omega
        · refine isN_cons hb1 hk ?_ hL
          have h5 := hp.lo
          have h6 := hp.hi
          rw [Nat.add_mul, Nat.one_mul] at h6
          have h7 := Nat.two_pow_pos (l + c)
          generalize 2 * u * 2 ^ (l + c) = A at *
          omega
        · refine ⟨?_, fun p hp2 => ?_⟩
          · rw [List.map_append, hS]
            unfold hashesOf
            rw [List.reverse_cons, List.map_append, ← List.append_assoc]
            show _ ++ [mt a0 a2 a5 g 64 b k] = _ ++ [nd a0 a2 a5 g t (b / 2 ^ t)]
            rw [hnd]
          · rcases List.mem_append.1 hp2 with hp2 | hp2
            · have := hI p hp2
              omega
            · obtain rfl := List.mem_singleton.1 hp2
              exact ⟨by show b < k; omega, by show k ≤ e; omega⟩
/-- The way up in a whole log, where the program finds the fork. -/
theorem parts_log {l i s c : Nat} {Rt Lf : List (Nat × Nat)} (hs : s < 2 ^ 64) (hi : (i + 1) * 2 ^ l ≤ s) (hev : i / 2 ^ c % 2 = 0) (htop : s / 2 ^ (l + c) = i / 2 ^ c + 1) (hR : IsN ((i / 2 ^ c + 1) * 2 ^ (l + c)) s Rt) (hL : IsN 0 (i / 2 ^ c * 2 ^ (l + c)) Lf) :
    (partsN 64 (i * 2 ^ l) ((i + 1) * 2 ^ l) 0 s).map (mtP a0 a2 a5 g) = hashesOf a0 a2 a5 g c l i Rt Lf ∧ ∀ p, p ∈ partsN 64 (i * 2 ^ l) ((i + 1) * 2 ^ l) 0 s → p.1 < p.2 ∧ p.2 ≤ s := by
  obtain ⟨c', u, r, Rt', Lf', hp, hR', hL', hS⟩ := parts_hash (a0 := a0) (a2 := a2) (a5 := a5) (g := g) l i 64 64 0 s (Nat.le_refl _) (Nat.le_refl _) (Nat.dvd_zero _) (by omega) (Nat.zero_le _) hi hs
  have hP := Nat.two_pow_pos (l + c')
  have hq : i / 2 ^ c' = 2 * u := by
    have h2 := hp.lo
    rw [Nat.zero_add] at h2
    exact Nat.eq_of_mul_eq_mul_right hP h2
  have ht : s / 2 ^ (l + c') = i / 2 ^ c' + 1 := by
    have h3 := hp.hi
    have h4 := hp.r
    rw [h3, Nat.zero_add, hq, Nat.mul_comm, Nat.mul_add_div hP, Nat.div_eq_of_lt h4, Nat.add_zero]
  obtain rfl := M.fork_one (show i / 2 ^ c' % 2 = 0 by omega) ht hev htop
  obtain rfl := isN_uniq hR hR'
  obtain rfl := isN_uniq hL hL'
  exact hS
end
end Go.Proofs.YtfhcpniibiobgaaDoor.Pure
namespace Go.Proofs.YtfhcpniibiobgaaDoor.Pure
open Go.RowKit Go.Proofs.YtfhcpniibiobgaaDoorW.PrintWords Go.Proofs.YtfhcpniibiobgaaDoorW.PrintMore Go.Proofs.YtfhcpniibiobgaaDoorW.PrintLast
open Qf (rehG)
open Go.Proofs.YtfhcpniibiobgaaDoor.M (IsN sibs sibs_length partsN sibs_facts chain_mem)

section
variable {a0 a1 a2 a3 a4 a5 : Int}
theorem rehG_end {L : List (List Int)} {B E : Nat} (g i : Nat) (out : List (List Int)) (h : L.length ≤ i) : rehG a0 a1 a2 a3 a4 a5 L B E g i out = some out := by
  cases g with
  | zero => rfl
  | succ g => rw [rehG, if_neg (by omega)]
theorem rehG_copy {L : List (List Int)} {B E : Nat} : ∀ (m g i : Nat) (out : List (List Int)), i + m ≤ L.length → (∀ j, i ≤ j → j < i + m → ¬ (B ≤ j ∧ j < E)) → rehG a0 a1 a2 a3 a4 a5 L B E (g + m) i out = rehG a0 a1 a2 a3 a4 a5 L B E g (i + m) (out ++ (L.drop i).take m)
  | 0, g, i, out, _, _ => by
    rw [List.take_zero, List.append_nil]
    rfl
  | m + 1, g, i, out, h, hb => by
    have hi : i < L.length := by omega
    have ht : (L.drop i).take (m + 1) = L.getD i [] :: (L.drop (i + 1)).take m := by
      rw [List.drop_eq_getElem_cons hi, List.take_succ_cons, List.getD_eq_getElem?_getD, List.getElem?_eq_getElem hi]
      rfl
    rw [← Nat.add_assoc, rehG, if_pos hi, if_neg (hb i (Nat.le_refl _) (by omega)), rehG_copy m g (i + 1) _ (by omega) (fun j h1 h2 => hb j (by omega) (by omega)), ht, List.append_assoc, show i + 1 + m = i + (m + 1) by omega]
    rfl
theorem rehG_none {L : List (List Int)} {B E : Nat} (h : E ≤ B) : rehG a0 a1 a2 a3 a4 a5 L B E L.length 0 [] = some L := by
  have h2 := rehG_copy (a0 := a0) (a1 := a1) (a2 := a2) (a3 := a3) (a4 := a4) (a5 := a5) (L := L) (B := B) (E := E) L.length 0 0 [] (by omega) (fun j _ _ => by omega)
  rw [rehG_end 0 _ _ (by omega), List.drop_zero, List.take_length, List.nil_append, Nat.zero_add] at h2
  exact h2
theorem rehG_mid (A X Z : List (List Int)) (y s : List Int) (hs : Qf.chainB a0 a1 a2 a3 a4 a5 X y = some s) : rehG a0 a1 a2 a3 a4 a5 (A ++ (y :: X) ++ Z) A.length (A.length + 1 + X.length) (A ++ (y :: X) ++ Z).length 0 [] = some (A ++ [s] ++ Z) := by
  obtain ⟨L, hL⟩ : ∃ L, L = A ++ (y :: X) ++ Z := ⟨_, rfl⟩
  rw [← hL]
  have hl : L.length = (X.length + Z.length + 1) + A.length := by
    rw [hL, List.length_append, List.length_append, List.length_cons]
    omega
  have tA : (L.drop 0).take A.length = A := by
    rw [hL, List.drop_zero, List.append_assoc]
    exact List.take_left' rfl
  have gy : L.getD A.length [] = y := by
    rw [hL, List.append_assoc, List.getD_eq_getElem?_getD, List.getElem?_append_right (Nat.le_refl _), Nat.sub_self]
    rfl
  have d1 : L.drop (A.length + 1) = X ++ Z := by
    rw [hL, List.append_assoc, ← List.drop_drop, List.drop_left' rfl]
    rfl
  have tX : (L.drop (A.length + 1)).take (A.length + 1 + X.length - (A.length + 1)) = X := by
    rw [d1, Nat.add_sub_cancel_left]
    exact List.take_left' rfl
  have tZ : (L.drop (A.length + 1 + X.length)).take Z.length = Z := by
    rw [← List.drop_drop, d1, List.drop_left' rfl]
    exact List.take_length
  have h1 := rehG_copy (a0 := a0) (a1 := a1) (a2 := a2) (a3 := a3) (a4 := a4) (a5 := a5) (L := L) (B := A.length) (E := A.length + 1 + X.length) A.length (X.length + Z.length + 1) 0 [] (by omega) (fun j _ h => by omega)
  have h2 := rehG_copy (a0 := a0) (a1 := a1) (a2 := a2) (a3 := a3) (a4 := a4) (a5 := a5) (L := L) (B := A.length) (E := A.length + 1 + X.length) Z.length X.length (A.length + 1 + X.length) (A ++ [s]) (by omega) (fun j h _ => by omega)
  rw [hl, h1, Nat.zero_add, tA, List.nil_append, rehG, if_pos (by omega), if_pos ⟨Nat.le_refl _, by omega⟩, tX, gy, hs, Option.bind_some, h2, tZ, rehG_end _ _ _ (by omega)]
/-- The program's chain of hashes of any length. -/
theorem toyBg (B : Nat) (hB : B ≤ 10000000000000) : ∀ (l : List (List Int)) (s : List Int), (∀ h ∈ l, h.length ≤ B) → s.length + (B + 9) * l.length ≤ 10000000000000 → Qf.chainB a0 a1 a2 a3 a4 a5 l s = some (chB a0 a2 a5 l s)
  | [], s, _, _ => rfl
  | h :: t, s, hl, hs => by
    have h1 := hl h (by simp)
    rw [List.length_cons, Nat.mul_succ] at hs
    have e2 := hcF_len a0 a2 a5 h s
    rw [Qf.chainB, chB, toyHC a0 a1 a2 a3 a4 a5 h s (by omega) (by omega), Option.bind_some]
    exact toyBg B hB t _ (fun x hx => hl x (by simp [hx])) (by omega)
/-- Where the nodes that are put together lie. -/
def wB (first : List (Nat × Nat)) (c : Nat) (Rt : List (Nat × Nat)) : Nat := if Rt.length = 0 then 0 else first.length + c
def wE (first : List (Nat × Nat)) (c : Nat) (Rt : List (Nat × Nat)) : Nat := if Rt.length = 0 then 0 else first.length + c + Rt.length
theorem rehash_whole {g : Nat → List Int} (first : List (Nat × Nat)) (c l i : Nat) (Rt Lf : List (Nat × Nat)) (hR : Rt.length ≤ 128) (hx : ∀ x ∈ Rt, (ndP a0 a2 a5 g x).length ≤ 1600000) :
    rehG a0 a1 a2 a3 a4 a5 ((whole first c l i Rt Lf).1.map (ndP a0 a2 a5 g)) (wB first c Rt) (wE first c Rt) ((whole first c l i Rt Lf).1.map (ndP a0 a2 a5 g)).length 0 [] = some (first.map (ndP a0 a2 a5 g) ++ hashesOf a0 a2 a5 g c l i Rt Lf) := by
  unfold whole tail wB wE hashesOf
  by_cases hz : Rt.length = 0
  · obtain rfl := List.eq_nil_of_length_eq_zero hz
    simp only [if_pos hz]
    rw [rehG_none (Nat.le_refl _)]
    simp
  · simp only [if_neg hz]
    obtain ⟨W, hW⟩ : ∃ W, W = Rt.map (ndP a0 a2 a5 g) := ⟨_, rfl⟩
    have hWl : W.length = Rt.length := by rw [hW, List.length_map]
    have hsp : W = W.take (W.length - 1) ++ [W.getD (W.length - 1) []] := by
      rw [List.getD_eq_getElem?_getD, List.getElem?_eq_getElem (by omega), Option.getD_some, ← List.take_succ_eq_append_getElem (by omega), List.take_of_length_le (by omega)]
    have hrev : W.reverse = W.getD (W.length - 1) [] :: (W.take (W.length - 1)).reverse := by
      conv => lhs; rw [hsp]
      rw [List.reverse_append, List.reverse_singleton]
      rfl
    have hmem : ∀ y ∈ W, y.length ≤ 1600000 := fun y hy => by
      rw [hW] at hy
      obtain ⟨x, h1, rfl⟩ := List.mem_map.1 hy
      exact hx x h1
    have hgd : (W.getD (W.length - 1) []).length ≤ 1600000 := by
      rw [List.getD_eq_getElem?_getD]
      rcases h : W[W.length - 1]? with _ | y
      · simp
      · exact hmem y (List.mem_of_getElem? h)
    have hch : Qf.chainB a0 a1 a2 a3 a4 a5 (W.take (W.length - 1)).reverse (W.getD (W.length - 1) []) = some (crown a0 a2 a5 W) := by
      rw [toyBg 1600000 (by omega) _ _ (fun y hy => hmem y (List.mem_of_mem_take (List.mem_reverse.1 hy))) (by rw [List.length_reverse, List.length_take]; omega), crown_chB W (by omega)]
    have hm := rehG_mid (a0 := a0) (a1 := a1) (a2 := a2) (a3 := a3) (a4 := a4) (a5 := a5) ((first ++ sibs c l i).map (ndP a0 a2 a5 g)) _ (Lf.reverse.map (ndP a0 a2 a5 g)) _ _ hch
    have hlA : ((first ++ sibs c l i).map (ndP a0 a2 a5 g)).length = first.length + c := by rw [List.length_map, List.length_append, sibs_length]
    have hlX : (W.take (W.length - 1)).reverse.length + 1 = Rt.length := by rw [List.length_reverse, List.length_take]; omega
    have hL : (first ++ (sibs c l i ++ Rt.reverse ++ Lf.reverse)).map (ndP a0 a2 a5 g) = (first ++ sibs c l i).map (ndP a0 a2 a5 g) ++ (W.getD (W.length - 1) [] :: (W.take (W.length - 1)).reverse) ++ Lf.reverse.map (ndP a0 a2 a5 g) := by
      rw [← hrev, hW, ← List.map_reverse, ← List.map_append, ← List.map_append]
      congr 1
      simp
    rw [hL, ← hlA, show ((first ++ sibs c l i).map (ndP a0 a2 a5 g)).length + Rt.length = ((first ++ sibs c l i).map (ndP a0 a2 a5 g)).length + 1 + (W.take (W.length - 1)).reverse.length by omega, hm, ← hW, List.map_append]
    simp
theorem up_of {lv ix s : Nat} (h : (ix + 1) * 2 ^ lv ≤ s) : 2 ^ lv ≤ s ∧ ix < s / 2 ^ lv := by
  have hp := Nat.two_pow_pos lv
  have h1 := (Nat.le_div_iff_mul_le hp).2 h
  have h2 := Nat.div_mul_le_self s (2 ^ lv)
  refine ⟨?_, by omega⟩
  have h3 : 2 ^ lv ≤ (ix + 1) * 2 ^ lv := Nat.le_mul_of_pos_left _ (by omega)
  omega
/-- The nodes lie in the log. -/
theorem whole_in {a l x s c : Nat} {Rt Lf : List (Nat × Nat)} (hx : x = (2 * a + 1) * 2 ^ l) (hlt : x < s) (hp : Path (2 * a) l s c Rt Lf) : ∀ n ∈ (whole (firstOf a l) c l (2 * a) Rt Lf).1, (n.2 + 1) * 2 ^ n.1 ≤ s := by
  have htop : (2 * a / 2 ^ c + 1) * 2 ^ (l + c) ≤ s := by
    rw [← hp.top]
    exact Nat.div_mul_le_self _ _
  intro n hn
  unfold whole tail at hn
  rcases List.mem_append.1 hn with hn | hn
  · unfold firstOf at hn
    split at hn
    · simp at hn
    · obtain rfl := List.mem_singleton.1 hn
      show (2 * a + 1) * 2 ^ l ≤ s
      omega
  · rcases List.mem_append.1 hn with hn | hn
    · rcases List.mem_append.1 hn with hn | hn
      · have h1 := ((sibs_facts c l (2 * a)).2.2 n hn).2.1
        have h2 : M.hi n = (n.2 + 1) * 2 ^ n.1 := by unfold M.hi; rw [Nat.mul_comm]
        omega
      · have h1 := (chain_mem hp.right.chain n (List.mem_reverse.1 hn)).2
        rw [Nat.mul_comm] at h1
        exact h1
    · have h1 := (chain_mem hp.left.chain n (List.mem_reverse.1 hn)).2
      rw [Nat.mul_comm] at h1
      rw [Nat.add_mul] at htop
      omega
end
end Go.Proofs.YtfhcpniibiobgaaDoor.Pure
