/- Several texts, joined. -/
import Derived.Test.YtfhcpniibiobgaaDoorJn
import Derived.Test.YtfhcpniibiobgaaDoorJp
import Derived.Test.YtfhcpniibiobgaaDoorJr
import Derived.Laws.Strings
/- Powers of two in numbers: plain (a part of the text Co). -/
namespace Go.Proofs.YtfhcpniibiobgaaDoor.Core
theorem odd_pow {t m n : Nat} (h : 2 ^ n ∣ 2 ^ t * (2 * m + 1)) : n ≤ t := by
  rcases Nat.lt_or_ge t n with hlt | hge
  · obtain ⟨c, hc⟩ := Nat.dvd_trans (Nat.pow_dvd_pow 2 (show t + 1 ≤ n by omega)) h
    rw [Nat.pow_succ, Nat.mul_assoc] at hc
    have := Nat.eq_of_mul_eq_mul_left (Nat.two_pow_pos t) hc
    omega
  · exact hge
theorem ones_below {e n i : Nat} (hd : 2 ^ n ∣ e + 1) (hi : i < n) : e / 2 ^ i % 2 = 1 := by
  obtain ⟨q, hq⟩ := Nat.dvd_trans (Nat.pow_dvd_pow 2 (show i + 1 ≤ n by omega)) hd
  have hp := Nat.two_pow_pos i
  have hq1 : 1 ≤ q := by
    rcases Nat.eq_zero_or_pos q with rfl | h
    · omega
    · exact h
  have hqs : 2 ^ (i + 1) * q = 2 ^ i * (2 * (q - 1)) + 2 * 2 ^ i := by
    have : q = q - 1 + 1 := by omega
    rw [this, Nat.mul_add, Nat.pow_succ, Nat.mul_assoc, Nat.mul_one, Nat.mul_comm 2 (2 ^ i)]
    simp
  rw [show e = 2 ^ i * (2 * (q - 1) + 1) + (2 ^ i - 1) by rw [Nat.mul_add]; omega, Nat.mul_add_div hp, Nat.div_eq_of_lt (by omega)]
  omega
theorem pow_odd : ∀ (k x : Nat), x ≤ k → 0 < x → ∃ t m, x = 2 ^ t * (2 * m + 1)
  | 0, x, h, h0 => by omega
  | k + 1, x, h, h0 => by
    by_cases hx : x % 2 = 1
    · exact ⟨0, x / 2, by omega⟩
    · obtain ⟨t, m, e⟩ := pow_odd k (x / 2) (by omega) (by omega)
      exact ⟨t + 1, m, by rw [Nat.pow_succ', Nat.mul_assoc, ← e]; omega⟩
end Go.Proofs.YtfhcpniibiobgaaDoor.Core
namespace Go.Proofs.YtfhcpniibiobgaaDoor.Pure
open Go.RowKit Go.Proofs.YtfhcpniibiobgaaDoorW.PrintWords Go.Proofs.YtfhcpniibiobgaaDoorW.PrintMore Go.Proofs.YtfhcpniibiobgaaDoorW.PrintLast
open Hs (CB CL)
open Qf (sameB)
open Go.Proofs.YtfhcpniibiobgaaDoor.M (leftN rightN nodesN)

/-- Bytes. -/
def Bt (l : List Int) : Prop := ∀ x ∈ l, 0 ≤ x ∧ x < 256
theorem bt_of {l : List Int} (h : ∀ n ∈ l, (Lit.int .u8 n).wf = true) : Bt l := fun x hx => by
  have h2 : IntKind.u8.min ≤ x ∧ x ≤ IntKind.u8.max := by simpa [Lit.wf] using h x hx
  have e1 : IntKind.u8.min = 0 := rfl
  have e2 : IntKind.u8.max = 255 := rfl
  omega
theorem sameB_self (l : List Int) : sameB l l = true := by exact BEq.rfl
theorem sameB_eq {l m : List Int} (hl : Bt l) (hm : Bt m) (h : sameB l m = true) : l = m := by
  have h1 : (strOfNums l).toList = (strOfNums m).toList := eq_of_beq h
  have h2 : (strOfNums l).data.toList = (strOfNums m).data.toList := by rw [← ByteArray.toList_eq, ← ByteArray.toList_eq]; exact h1
  rw [strOfNums_data, strOfNums_data] at h2
  have hlen : l.length = m.length := by simpa using congrArg List.length h2
  apply List.ext_getElem hlen
  intro i h3 h4
  have h5 : (l.map fun n => UInt8.ofNat n.toNat)[i]? = (m.map fun n => UInt8.ofNat n.toNat)[i]? := by rw [h2]
  rw [List.getElem?_map, List.getElem?_map, List.getElem?_eq_getElem h3, List.getElem?_eq_getElem h4] at h5
  simp only [Option.map_some, Option.some.injEq] at h5
  have b1 := hl l[i] (List.getElem_mem h3)
  have b2 := hm m[i] (List.getElem_mem h4)
  have h6 := congrArg UInt8.toNat h5
  rw [UInt8.toNat_ofNat', UInt8.toNat_ofNat'] at h6
  omega
theorem wordF_bt (w n : Int) : Bt (Hs.wordF w n) := fun x hx => by
  unfold Hs.wordF at hx
  obtain ⟨i, _, rfl⟩ := List.mem_map.1 hx
  unfold Hs.wb
  omega
theorem hcF_bt (a0 a2 a5 : Int) {l m : List Int} (hl : Bt l) (hm : Bt m) : Bt (hcF a0 a2 a5 l m) := by
  unfold hcF
  split
  · exact wordF_bt _ _
  · intro x hx
    rw [List.mem_append, List.mem_append, List.mem_append] at hx
    rcases hx with ((h | h) | h) | h
    · obtain rfl := List.mem_singleton.1 h; omega
    · exact wordF_bt _ _ x h
    · exact hl x h
    · exact hm x h
/-- The hash of a node of a tree. -/
def nd (a0 a2 a5 : Int) (hl : Nat → List Int) : Nat → Nat → List Int
  | 0, i => hl i
  | l + 1, i => hcF a0 a2 a5 (nd a0 a2 a5 hl l (2 * i)) (nd a0 a2 a5 hl l (2 * i + 1))
def bl (n : Nat) : Nat := if n = 0 then 0 else Nat.log2 n + 1
theorem lt_bl {l n : Nat} : l < bl n ↔ 2 ^ l ≤ n := by
  unfold bl
  by_cases h : n = 0
  · subst h
    have := Nat.two_pow_pos l
    rw [if_pos rfl]
    omega
  · rw [if_neg h, Nat.lt_succ_iff, Nat.le_log2 h]
def rsN (a0 a2 a5 : Int) (hl : Nat → List Int) (n : Nat) : List (List (List Int)) := (List.range (bl n)).map fun l => (List.range (n / 2 ^ l)).map (nd a0 a2 a5 hl l)
section
variable {a0 a2 a5 : Int} {hl : Nat → List Int}
theorem rsN_len (n : Nat) : (rsN a0 a2 a5 hl n).length = bl n := by simp [rsN]
theorem rsN_get (n l : Nat) : (rsN a0 a2 a5 hl n).getD l [] = (List.range (n / 2 ^ l)).map (nd a0 a2 a5 hl l) := by
  by_cases h : l < bl n
  · rw [List.getD_eq_getElem?_getD, List.getElem?_eq_getElem (by rw [rsN_len]; exact h)]
    simp [rsN]
  · have h1 : ¬ 2 ^ l ≤ n := fun hh => h (lt_bl.2 hh)
    rw [List.getD_eq_getElem?_getD, List.getElem?_eq_none (by rw [rsN_len]; omega), Nat.div_eq_of_lt (by omega)]
    rfl
theorem rsN_at (n l i : Nat) (hi : i < n / 2 ^ l) : ((rsN a0 a2 a5 hl n).getD l []).getD i [] = nd a0 a2 a5 hl l i := by
  rw [rsN_get, List.getD_eq_getElem?_getD, List.getElem?_eq_getElem (by simpa using hi)]
  simp
theorem rsN_row (n l : Nat) : ((rsN a0 a2 a5 hl n).getD l []).length = n / 2 ^ l := by rw [rsN_get]; simp
end
theorem upR_lo (rows : List (List (List Int))) (sj : Nat → List Int) : ∀ j, j ≤ rows.length → ∀ i, i < j → (Qf.upR rows sj j).getD i [] = rows.getD i [] ++ [sj i]
  | 0, _, i, hi => by omega
  | j + 1, hj, i, hi => by
    rw [Qf.upR]
    by_cases e : j = i
    · subst e
      rw [Qf.getD_set_self _ _ _ _ (by rw [Qf.upR_len]; omega), Qf.upR_hi rows sj j j (Nat.le_refl _)]
    · rw [Qf.getD_set_ne _ _ _ _ _ e, upR_lo rows sj j (by omega) i (by omega)]
theorem upT_get (rows : List (List (List Int))) (sj : Nat → List Int) (m : Nat) (hm : m ≤ rows.length) (i : Nat) : (Qf.upT rows sj m).getD i [] = if i ≤ m then rows.getD i [] ++ [sj i] else rows.getD i [] := by
  unfold Qf.upT
  have hnone : ∀ q, rows.length ≤ q → rows.getD q [] = [] := fun q hq => by rw [List.getD_eq_getElem?_getD, List.getElem?_eq_none hq]; rfl
  by_cases h : m = rows.length
  · rw [if_pos h, Qf.getD_snoc, Qf.upR_len]
    by_cases e : i = rows.length
    · rw [if_pos e, if_pos (by omega), hnone i (by omega), e, h]
      rfl
    · rw [if_neg e]
      rcases Nat.lt_or_ge i m with hlt | hge
      · rw [if_pos (by omega), upR_lo rows sj m hm i hlt]
      · rw [if_neg (by omega), Qf.upR_hi rows sj m i hge]
  · rw [if_neg h]
    by_cases e : m = i
    · subst e
      rw [Qf.getD_set_self _ _ _ _ (by rw [Qf.upR_len]; omega), if_pos (Nat.le_refl _)]
    · rw [Qf.getD_set_ne _ _ _ _ _ e]
      rcases Nat.lt_or_ge i m with hlt | hge
      · rw [if_pos (by omega), upR_lo rows sj m hm i hlt]
      · rw [if_neg (by omega), Qf.upR_hi rows sj m i hge]
theorem upT_len (rows : List (List (List Int))) (sj : Nat → List Int) (m : Nat) : (Qf.upT rows sj m).length = if m = rows.length then rows.length + 1 else rows.length := by
  unfold Qf.upT
  split
  · rw [List.length_append, Qf.upR_len]
    rfl
  · rw [List.length_set, Qf.upR_len]
theorem ext_getD {l1 l2 : List (List (List Int))} (h : l1.length = l2.length) (h2 : ∀ i, l1.getD i [] = l2.getD i []) : l1 = l2 := by
  refine List.ext_getElem h fun i a b => ?_
  have := h2 i
  rwa [List.getD_eq_getElem?_getD, List.getD_eq_getElem?_getD, List.getElem?_eq_getElem a, List.getElem?_eq_getElem b] at this
theorem nd_len {a0 a2 a5 : Int} {hl : Nat → List Int} (h : ∀ i, (hl i).length ≤ 5010) : ∀ l i, (nd a0 a2 a5 hl l i).length + 9 ≤ 2 ^ l * 5020
  | 0, i => by
    have := h i
    rw [nd]
    omega
  | l + 1, i => by
    have h1 := nd_len (a0 := a0) (a2 := a2) (a5 := a5) h l (2 * i)
    have h2 := nd_len (a0 := a0) (a2 := a2) (a5 := a5) h l (2 * i + 1)
    have h3 := hcF_len a0 a2 a5 (nd a0 a2 a5 hl l (2 * i)) (nd a0 a2 a5 hl l (2 * i + 1))
    rw [nd, Nat.pow_succ, Nat.mul_right_comm]
    omega
theorem tstep_of (a0 a1 a2 a3 a4 a5 : Int) {hl : Nat → List Int} (h : ∀ i, (hl i).length ≤ 5010) (n : Nat) (hn : n < 300) : Qf.TStep a0 a1 a2 a3 a4 a5 n (rsN a0 a2 a5 hl n) (hl n) (rsN a0 a2 a5 hl (n + 1)) := by
  obtain ⟨m, q, hq⟩ := Core.pow_odd (n + 1) (n + 1) (Nat.le_refl _) (by omega)
  have hp := Nat.two_pow_pos m
  have hmul : 2 ^ m * (2 * q + 1) = 2 ^ m * (2 * q) + 2 ^ m := by rw [Nat.mul_add, Nat.mul_one]
  have hdm : n / 2 ^ m = 2 * q := by
    rw [show n = 2 ^ m * (2 * q) + (2 ^ m - 1) by omega, Nat.mul_add_div hp, Nat.div_eq_of_lt (by omega)]
    omega
  have hle : 2 ^ m ≤ n + 1 := by omega
  have hml : m ≤ bl n := by
    rcases Nat.eq_zero_or_pos m with h0 | h0
    · omega
    · have h1 : m - 1 < bl n := lt_bl.2 (by
        have h2 : 2 ^ m = 2 * 2 ^ (m - 1) := by rw [← Nat.pow_succ']; congr 1; omega
        have := Nat.two_pow_pos (m - 1)
        omega)
      omega
  have hdvd : ∀ i, i ≤ m → 2 ^ i ∣ n + 1 := fun i hi => by
    rw [hq]
    exact Nat.dvd_trans (Nat.pow_dvd_pow 2 hi) ⟨_, rfl⟩
  have hbl : bl n ≤ 100 := by
    rcases Nat.lt_or_ge 100 (bl n) with hh | hh
    · have := lt_bl.1 hh
      have h2 : 2 ^ 9 ≤ 2 ^ 100 := Nat.pow_le_pow_right (by omega) (by omega)
      omega
    · exact hh
  have hm64 : m < 64 := by
    rcases Nat.lt_or_ge m 64 with hh | hh
    · exact hh
    · have h2 : 2 ^ 9 ≤ 2 ^ m := Nat.pow_le_pow_right (by omega) (by omega)
      omega
  have hsz : ∀ i, i ≤ m → ∀ x, (nd a0 a2 a5 hl i x).length ≤ 10000000000000 := fun i hi x => by
    have h1 := nd_len (a0 := a0) (a2 := a2) (a5 := a5) h i x
    have h2 : 2 ^ i ≤ 2 ^ m := Nat.pow_le_pow_right (by omega) hi
    omega
  refine ⟨m, fun i => nd a0 a2 a5 hl i (n / 2 ^ i), by show nd a0 a2 a5 hl 0 (n / 2 ^ 0) = _; rw [Nat.pow_zero, Nat.div_one]; rfl, by rw [rsN_len]; exact hml, by rw [rsN_len]; exact hbl, hm64, fun i _ => ?_, fun i hi => Core.ones_below (hdvd m (Nat.le_refl _)) hi, by rw [hdm]; omega, fun i hi => ?_, fun i hi => ?_, ?_⟩
  · rw [rsN_row]
    have := Nat.div_le_self n (2 ^ i)
    omega
  · rw [rsN_row]
    have := Core.ones_below (hdvd m (Nat.le_refl _)) hi
    generalize n / 2 ^ i = p at this ⊢
    omega
  · have ho := Core.ones_below (hdvd m (Nat.le_refl _)) hi
    have hpos : n / 2 ^ i - 1 < n / 2 ^ i := by
      generalize n / 2 ^ i = p at ho ⊢
      omega
    rw [rsN_row, rsN_at n i _ hpos, toyHC _ _ _ _ _ _ _ _ (hsz i (by omega) _) (hsz i (by omega) _)]
    have h2 : n / 2 ^ (i + 1) = n / 2 ^ i / 2 := by rw [Nat.pow_succ, Nat.div_div_eq_div_mul]
    refine congrArg some ?_
    show _ = nd a0 a2 a5 hl (i + 1) (n / 2 ^ (i + 1))
    rw [nd, h2]
    generalize n / 2 ^ i = p at ho ⊢
    rw [show 2 * (p / 2) = p - 1 by omega, show p - 1 + 1 = p by omega]
  · refine ext_getD ?_ fun i => ?_
    · rw [rsN_len, upT_len, rsN_len]
      by_cases he : m = bl n
      · rw [if_pos he]
        have h1 : ¬ 2 ^ m ≤ n := fun hh => by
          have := lt_bl.2 hh
          omega
        have h2 : m < bl (n + 1) := lt_bl.2 hle
        have h3 : ¬ m + 1 < bl (n + 1) := fun hh => by
          have := lt_bl.1 hh
          rw [Nat.pow_succ] at this
          omega
        omega
      · rw [if_neg he]
        have h1 : ¬ 2 ^ bl n ≤ n := fun hh => by
          have := lt_bl.2 hh
          omega
        have h2 : ¬ bl n < bl (n + 1) := fun hh => by
          have h4 := lt_bl.1 hh
          have h5 : n + 1 = 2 ^ bl n := by omega
          have h6 : 2 ^ bl n ∣ 2 ^ m * (2 * q + 1) := by
            rw [← hq, h5]
            exact Nat.dvd_refl _
          have := Core.odd_pow h6
          omega
        have h3 : bl n ≤ bl (n + 1) := by
          rcases Nat.eq_zero_or_pos (bl n) with h0 | h0
          · omega
          · have h4 : bl n - 1 < bl n := by omega
            have h5 : bl n - 1 < bl (n + 1) := lt_bl.2 (Nat.le_succ_of_le (lt_bl.1 h4))
            omega
        omega
    · rw [upT_get _ _ _ (by rw [rsN_len]; exact hml), rsN_get, rsN_get]
      have hpi := Nat.two_pow_pos i
      by_cases hi : i ≤ m
      · obtain ⟨u, hu⟩ := hdvd i hi
        have hu1 : 1 ≤ u := by
          rcases Nat.eq_zero_or_pos u with h0 | h0
          · rw [h0] at hu
            omega
          · exact h0
        have hus : 2 ^ i * u = 2 ^ i * (u - 1) + 2 ^ i := by
          rw [← Nat.mul_succ]
          congr 1
          omega
        have e1 : (n + 1) / 2 ^ i = u := by rw [hu, Nat.mul_div_cancel_left _ hpi]
        have e2 : n / 2 ^ i = u - 1 := by
          rw [show n = 2 ^ i * (u - 1) + (2 ^ i - 1) by omega, Nat.mul_add_div hpi, Nat.div_eq_of_lt (by omega), Nat.add_zero]
        rw [if_pos hi, e1, e2]
        conv => lhs; rw [show u = u - 1 + 1 by omega]
        rw [List.range_succ, List.map_append]
        rfl
      · rw [if_neg hi]
        have hnd : ¬ 2 ^ i ∣ n + 1 := fun hh => by
          rw [hq] at hh
          have := Core.odd_pow hh
          omega
        have e1 := Nat.div_add_mod n (2 ^ i)
        have e2 := Nat.mod_lt n hpi
        have e3 : n % 2 ^ i + 1 ≠ 2 ^ i := fun hh => hnd ⟨n / 2 ^ i + 1, by rw [Nat.mul_add, Nat.mul_one]; omega⟩
        have e4 : (n + 1) / 2 ^ i = n / 2 ^ i := by
          conv => lhs; rw [show n + 1 = 2 ^ i * (n / 2 ^ i) + (n % 2 ^ i + 1) by omega]
          rw [Nat.mul_add_div hpi, Nat.div_eq_of_lt (show n % 2 ^ i + 1 < 2 ^ i by omega), Nat.add_zero]
        rw [e4]
end Go.Proofs.YtfhcpniibiobgaaDoor.Pure
namespace Go.Proofs.YtfhcpniibiobgaaDoor.Pure
open Go.RowKit Go.Proofs.YtfhcpniibiobgaaDoorW.PrintWords Go.Proofs.YtfhcpniibiobgaaDoorW.PrintMore Go.Proofs.YtfhcpniibiobgaaDoorW.PrintLast
open Hs (CB CL)
open Qf (sameB)
open Go.Proofs.YtfhcpniibiobgaaDoor.M (leftN rightN nodesN)

/-- The hash of the tree over the leaf hashes g b .. g (e - 1). -/
def mt (a0 a2 a5 : Int) (g : Nat → List Int) : Nat → Nat → Nat → List Int
  | 0, b, _ => g b
  | T + 1, b, e => if e - b ≤ 1 then g b else hcF a0 a2 a5 (mt a0 a2 a5 g T b (b + 2 ^ Nat.log2 (e - b - 1))) (mt a0 a2 a5 g T (b + 2 ^ Nat.log2 (e - b - 1)) e)
theorem cut_at {n : Nat} (h : 2 ≤ n) : 2 ^ Nat.log2 (n - 1) < n ∧ n ≤ 2 ^ (Nat.log2 (n - 1) + 1) := by
  have n0 : n - 1 ≠ 0 := by omega
  have h1 := Nat.log2_self_le n0
  have h2 := Nat.lt_log2_self (n := n - 1)
  omega
theorem log_is {n t : Nat} (h1 : 2 ^ t < n) (h2 : n ≤ 2 ^ (t + 1)) : Nat.log2 (n - 1) = t := by
  have hp := Nat.two_pow_pos t
  obtain ⟨g1, g2⟩ := cut_at (n := n) (by omega)
  generalize Nat.log2 (n - 1) = s at g1 g2
  have e1 : s < t + 1 := (Nat.pow_lt_pow_iff_right (by omega : 1 < 2)).1 (Nat.lt_of_lt_of_le g1 h2)
  have e2 : t < s + 1 := (Nat.pow_lt_pow_iff_right (by omega : 1 < 2)).1 (Nat.lt_of_lt_of_le h1 g2)
  omega
section
variable {a0 a1 a2 a3 a4 a5 : Int} {g g' : Nat → List Int}
theorem mt_cut {T b e t : Nat} (h1 : 2 ^ t < e - b) (h2 : e - b ≤ 2 ^ (t + 1)) : mt a0 a2 a5 g (T + 1) b e = hcF a0 a2 a5 (mt a0 a2 a5 g T b (b + 2 ^ t)) (mt a0 a2 a5 g T (b + 2 ^ t) e) := by
  have hp := Nat.two_pow_pos t
  rw [mt, if_neg (by omega), log_is h1 h2]
theorem mt_one {T b e : Nat} (h : e - b ≤ 1) : mt a0 a2 a5 g T b e = g b := by
  cases T with
  | zero => rfl
  | succ T => rw [mt, if_pos h]
theorem fuel_of {T t n : Nat} (h1 : 2 ^ t < n) (h2 : n ≤ 2 ^ (T + 1)) : t ≤ T := by
  have : t < T + 1 := (Nat.pow_lt_pow_iff_right (by omega : 1 < 2)).1 (Nat.lt_of_lt_of_le h1 h2)
  omega
/-- Leaf hashes that are the same, wherever they lie, with fuel enough. -/
theorem mt_shift : ∀ (T T' b e b' e' : Nat), e - b ≤ 2 ^ T → e - b ≤ 2 ^ T' → b < e → b' < e' → e' - b' = e - b → (∀ i, i < e - b → g (b + i) = g' (b' + i)) → mt a0 a2 a5 g T b e = mt a0 a2 a5 g' T' b' e' := by
  intro T
  induction T with
  | zero =>
    intro T' b e b' e' h1 h2 hb hb' he hg
    rw [Nat.pow_zero] at h1
    rw [mt_one (by omega), mt_one (by omega)]
    exact hg 0 (by omega)
  | succ T ih =>
    intro T' b e b' e' h1 h2 hb hb' he hg
    by_cases h : e - b ≤ 1
    · rw [mt_one h, mt_one (by omega)]
      exact hg 0 (by omega)
    · obtain ⟨g1, g2⟩ := cut_at (n := e - b) (by omega)
      generalize Nat.log2 (e - b - 1) = t at g1 g2
      have hp := Nat.two_pow_pos t
      have hq : 2 ^ (t + 1) = 2 * 2 ^ t := by rw [Nat.pow_succ, Nat.mul_comm]
      cases T' with
      | zero =>
        rw [Nat.pow_zero] at h2
        omega
      | succ T' =>
        have f1 := fuel_of g1 h1
        have f2 := fuel_of g1 h2
        have p1 : 2 ^ t ≤ 2 ^ T := Nat.pow_le_pow_right (by omega) f1
        have p2 : 2 ^ t ≤ 2 ^ T' := Nat.pow_le_pow_right (by omega) f2
        rw [mt_cut g1 g2, mt_cut (t := t) (by omega) (by omega)]
        rw [ih T' b (b + 2 ^ t) b' (b' + 2 ^ t) (by omega) (by omega) (by omega) (by omega) (by omega) (fun i hi => hg i (by omega)), ih T' (b + 2 ^ t) e (b' + 2 ^ t) e' (by omega) (by omega) (by omega) (by omega) (by omega) (fun i hi => by
          have := hg (2 ^ t + i) (by omega)
          rwa [← Nat.add_assoc, ← Nat.add_assoc] at this)]
theorem mt_fuel {T T' b e : Nat} (h1 : e - b ≤ 2 ^ T) (h2 : e - b ≤ 2 ^ T') (hb : b < e) : mt a0 a2 a5 g T b e = mt a0 a2 a5 g T' b e := mt_shift T T' b e b e h1 h2 hb hb rfl fun _ _ => rfl
theorem mt_len (h : ∀ i, (g i).length ≤ 5010) : ∀ (T b e : Nat), e - b ≤ 2 ^ T → b < e → (mt a0 a2 a5 g T b e).length + 9 ≤ (e - b) * 5020
  | 0, b, e, hw, hb => by
    have := h b
    rw [mt]
    omega
  | T + 1, b, e, hw, hb => by
    by_cases h1 : e - b ≤ 1
    · have := h b
      rw [mt_one h1]
      omega
    · obtain ⟨g1, g2⟩ := cut_at (n := e - b) (by omega)
      generalize Nat.log2 (e - b - 1) = t at g1 g2
      have hp := Nat.two_pow_pos t
      have hq : 2 ^ (t + 1) = 2 * 2 ^ t := by rw [Nat.pow_succ, Nat.mul_comm]
      have p1 : 2 ^ t ≤ 2 ^ T := Nat.pow_le_pow_right (by omega) (fuel_of g1 hw)
      have i1 := mt_len h T b (b + 2 ^ t) (by omega) (by omega)
      have i2 := mt_len h T (b + 2 ^ t) e (by omega) (by omega)
      rw [mt_cut g1 g2]
      have := hcF_len a0 a2 a5 (mt a0 a2 a5 g T b (b + 2 ^ t)) (mt a0 a2 a5 g T (b + 2 ^ t) e)
      omega
theorem mt_bt (h : ∀ i, Bt (g i)) : ∀ (T b e : Nat), Bt (mt a0 a2 a5 g T b e)
  | 0, b, e => h b
  | T + 1, b, e => by
    rw [mt]
    split
    · exact h b
    · exact hcF_bt a0 a2 a5 (mt_bt h T _ _) (mt_bt h T _ _)
/-- The reference's root. -/
theorem spec_root (M : List (List Int)) : ∀ (T k : Nat) (L : List (List Int)) (b : Nat), 0 < L.length → L.length ≤ 2 ^ T → L.length ≤ 300 → 4000000 + T ≤ k → (∀ i, (M.getD i []).length ≤ 5010) → (∀ i, i < L.length → L.getD i [] = M.getD (b + i) []) → Qf.spec_Root.f k a0 a1 a2 a3 a4 a5 L = some (mt a0 a2 a5 (fun i => M.getD i []) T b (b + L.length)) := by
  intro T
  induction T with
  | zero =>
    intro k L b hp hw h300 hk hM hL
    obtain ⟨k, rfl⟩ : ∃ k', k = k' + 1 := ⟨k - 1, by omega⟩
    rw [Nat.pow_zero] at hw
    rw [Qf.spec_Root.f, if_neg (by omega), if_pos (by omega), if_pos (by omega), mt_one (by omega)]
    exact congrArg some (hL 0 hp)
  | succ T ih =>
    intro k L b hp hw h300 hk hM hL
    obtain ⟨k, rfl⟩ : ∃ k', k = k' + 1 := ⟨k - 1, by omega⟩
    by_cases h1 : L.length ≤ 1
    · rw [Qf.spec_Root.f, if_neg (by omega), if_pos (by omega), if_pos (by omega), mt_one (by omega)]
      exact congrArg some (hL 0 hp)
    · obtain ⟨g1, g2⟩ := cut_at (n := L.length) (by omega)
      generalize Nat.log2 (L.length - 1) = t at g1 g2
      have hpt := Nat.two_pow_pos t
      have hq : 2 ^ (t + 1) = 2 * 2 ^ t := by rw [Nat.pow_succ, Nat.mul_comm]
      have p1 : 2 ^ t ≤ 2 ^ T := Nat.pow_le_pow_right (by omega) (fuel_of g1 hw)
      have ht : t < 64 := by
        have : 2 ^ t < 2 ^ 64 := by omega
        exact (Nat.pow_lt_pow_iff_right (by omega)).1 this
      have hsp : Qf.spec_split.f k ((L.length : Nat) : Int) = some ((2 ^ t : Nat) : Int) := split_go L.length t (by omega) g1 g2 t 0 k (by omega) (by omega)
      have tl : (L.take (2 ^ t)).length = 2 ^ t := by rw [List.length_take]; omega
      have dl : (L.drop (2 ^ t)).length = L.length - 2 ^ t := List.length_drop
      have i1 := ih k (L.take (2 ^ t)) b (by omega) (by omega) (by omega) (by omega) hM (fun i hi => by
        rw [← hL i (by omega), List.getD_eq_getElem?_getD, List.getD_eq_getElem?_getD, List.getElem?_take_of_lt (by omega)])
      have i2 := ih k (L.drop (2 ^ t)) (b + 2 ^ t) (by omega) (by omega) (by omega) (by omega) hM (fun i hi => by
        rw [Nat.add_assoc, ← hL (2 ^ t + i) (by omega), List.getD_eq_getElem?_getD, List.getD_eq_getElem?_getD, List.getElem?_drop])
      rw [tl] at i1
      rw [dl, show b + 2 ^ t + (L.length - 2 ^ t) = b + L.length by omega] at i2
      have l1 := mt_len (a0 := a0) (a2 := a2) (a5 := a5) hM T b (b + 2 ^ t) (by omega) (by omega)
      have l2 := mt_len (a0 := a0) (a2 := a2) (a5 := a5) hM T (b + 2 ^ t) (b + L.length) (by omega) (by omega)
      rw [Qf.spec_Root.f, if_neg (by omega), if_neg (by omega), wu _ (by omega), hsp, Option.bind_some, if_pos (by omega), if_pos (by omega), Int.toNat_natCast, i1, Option.bind_some, i2, Option.bind_some, specHC a0 a1 a2 a3 a4 a5 _ _ (by omega) (by omega) k (by omega), Option.bind_some, mt_cut (t := t) (by omega) (by omega)]
/-- A whole node of the tree. -/
theorem nd_mt : ∀ (l i T : Nat), l ≤ T → nd a0 a2 a5 g l i = mt a0 a2 a5 g T (i * 2 ^ l) ((i + 1) * 2 ^ l)
  | 0, i, T, _ => by
    rw [Nat.pow_zero, Nat.mul_one, Nat.mul_one, mt_one (by omega), nd]
  | l + 1, i, T, h => by
    obtain ⟨T, rfl⟩ : ∃ T', T = T' + 1 := ⟨T - 1, by omega⟩
    have hp := Nat.two_pow_pos l
    have hq : 2 ^ (l + 1) = 2 * 2 ^ l := by rw [Nat.pow_succ, Nat.mul_comm]
    have e1 : (i + 1) * 2 ^ (l + 1) = i * 2 ^ (l + 1) + 2 ^ (l + 1) := Nat.succ_mul _ _
    have q1 : i * 2 ^ (l + 1) = 2 * i * 2 ^ l := by rw [hq, ← Nat.mul_assoc, Nat.mul_comm i 2]
    have e2 : (2 * i + 1) * 2 ^ l = 2 * i * 2 ^ l + 2 ^ l := Nat.succ_mul _ _
    have e3 : (2 * i + 1 + 1) * 2 ^ l = (2 * i + 1) * 2 ^ l + 2 ^ l := Nat.succ_mul _ _
    have i1 := nd_mt l (2 * i) T (by omega)
    have i2 := nd_mt l (2 * i + 1) T (by omega)
    rw [nd, i1, i2, mt_cut (t := l) (by omega) (by omega), q1, e2, e1, q1, e3, e2, hq, show 2 * i * 2 ^ l + 2 ^ l + 2 ^ l = 2 * i * 2 ^ l + 2 * 2 ^ l by omega]
/-- Hashes put together from the last one on. -/
def crown (a0 a2 a5 : Int) : List (List Int) → List Int
  | [] => []
  | [x] => x
  | x :: y :: l => hcF a0 a2 a5 x (crown a0 a2 a5 (y :: l))
theorem crown_chB : ∀ (W : List (List Int)), 0 < W.length → chB a0 a2 a5 (W.take (W.length - 1)).reverse (W.getD (W.length - 1) []) = crown a0 a2 a5 W
  | [], h => by simp at h
  | [x], _ => rfl
  | x :: y :: l, _ => by
    have ih := crown_chB (y :: l) (by simp)
    have e1 : (x :: y :: l).length - 1 = (y :: l).length - 1 + 1 := by simp
    rw [e1, List.take_succ_cons, List.reverse_cons, chB_append, List.getD_cons_succ, ih, crown]
    rfl
theorem right_mt (e : Nat) : ∀ (f R T : Nat), f ≤ 64 → R < 2 ^ f → 0 < R → R ≤ e → 2 ^ f ∣ e - R → R ≤ 2 ^ T → (rightN f e R).map (fun x => nd a0 a2 a5 g x.1 x.2) ≠ [] ∧ crown a0 a2 a5 ((rightN f e R).map fun x => nd a0 a2 a5 g x.1 x.2) = mt a0 a2 a5 g T (e - R) e := fun f => by
  induction f using Nat.strongRecOn with
  | _ f ih =>
    intro R T hf hR h0 he hd hT
    rcases f with _ | f
    · rw [Nat.pow_zero] at hR
      omega
    · obtain ⟨_, hcf, hle, _, hrest, ⟨u0, hu⟩, hd2⟩ := M.rstep f e R hf (by omega) hR he hd
      obtain ⟨u, hu2⟩ : ∃ u, u = 2 * u0 := ⟨_, rfl⟩
      rw [← hu2] at hu
      clear hu2
      rw [rightN, if_neg (by omega)]
      generalize Lib.bitLen R - 1 = c at hcf hle hrest hu hd2
      have hp := Nat.two_pow_pos c
      rw [M.rightN_fuel c f e (R - 2 ^ c) hcf (by omega) hrest]
      have hdiv : (e - R) / 2 ^ c = u := by rw [hu, Nat.mul_div_cancel_left _ hp]
      rw [hdiv]
      have hmul : u * 2 ^ c = e - R := by rw [hu, Nat.mul_comm]
      have hmul2 : (u + 1) * 2 ^ c = e - R + 2 ^ c := by rw [Nat.succ_mul, hmul]
      have hcT : c ≤ T := (Nat.pow_le_pow_iff_right (by omega : 1 < 2)).1 (Nat.le_trans hle hT)
      have hn := nd_mt (a0 := a0) (a2 := a2) (a5 := a5) (g := g) c u T hcT
      rw [hmul, hmul2] at hn
      refine ⟨by simp, ?_⟩
      by_cases hz : R - 2 ^ c = 0
      · have hnil : rightN c e (R - 2 ^ c) = [] := by
          rw [hz]
          cases c with
          | zero => rfl
          | succ c => rw [rightN, if_pos rfl]
        rw [hnil, List.map_cons, List.map_nil, crown]
        show nd a0 a2 a5 g c u = _
        rw [hn, show e - R + 2 ^ c = e by omega]
      · obtain ⟨T, rfl⟩ : ∃ T', T = T' + 1 := ⟨T - 1, by
          rcases T with _ | T
          · rw [Nat.pow_zero] at hT
            omega
          · omega⟩
        have hq : 2 ^ (c + 1) = 2 * 2 ^ c := by rw [Nat.pow_succ, Nat.mul_comm]
        have hcT2 : c ≤ T := fuel_of (n := R) (by omega) hT
        have p1 : 2 ^ c ≤ 2 ^ T := Nat.pow_le_pow_right (by omega) hcT2
        obtain ⟨i1, i2⟩ := ih c (by omega) (R - 2 ^ c) T (by omega) hrest (by omega) (by omega) hd2 (by omega)
        rw [List.map_cons]
        show crown a0 a2 a5 (nd a0 a2 a5 g c u :: _) = _
        generalize (rightN c e (R - 2 ^ c)).map (fun x => nd a0 a2 a5 g x.1 x.2) = W at i1 i2 ⊢
        rcases W with _ | ⟨y, l⟩
        · exact absurd rfl i1
        · rw [crown, i2, mt_cut (t := c) (by omega) (by omega)]
          rw [hn, show e - (R - 2 ^ c) = e - R + 2 ^ c by omega, mt_fuel (T := T + 1) (T' := T) (by rw [Nat.add_sub_cancel_left]; exact Nat.pow_le_pow_right (by omega) hcT) (by omega) (by omega)]
/-- With terms: what an audit path that leads to the root of a log says of its leaf hash. -/
theorem root_binds (h0 : a0 ≠ 1) (hg : ∀ i, (g i).length ≤ 5010) (x : Nat) : ∀ (T b e : Nat) (leaf : List Int) (path : List (List Int)), T ≤ 64 → b ≤ x → x < e → e - b ≤ 2 ^ T → e ≤ 300 → leaf.length ≤ 5000 → (∀ h ∈ path, h.length ≤ 5000) → rootF a0 a2 a5 x T b e leaf path = mt a0 a2 a5 g T b e → leaf = g x
  | 0, b, e, leaf, path, hT, hb, hx, hw, h300, hl, hp, h => by
    rw [Nat.pow_zero] at hw
    rw [rootF, mt_one (by omega)] at h
    rw [h]
    congr 1
    omega
  | T + 1, b, e, leaf, path, hT, hb, hx, hw, h300, hl, hp, h => by
    rw [rootF] at h
    by_cases h1 : e - b = 1
    · rw [if_pos h1, mt_one (by omega)] at h
      rw [h]
      congr 1
      omega
    · rw [if_neg h1] at h
      obtain ⟨g1, g2⟩ := cut_at (n := e - b) (by omega)
      generalize Nat.log2 (e - b - 1) = t at g1 g2 h
      have hpt := Nat.two_pow_pos t
      have hq : 2 ^ (t + 1) = 2 * 2 ^ t := by rw [Nat.pow_succ, Nat.mul_comm]
      have p1 : 2 ^ t ≤ 2 ^ T := Nat.pow_le_pow_right (by omega) (fuel_of g1 hw)
      rw [mt_cut g1 g2] at h
      have htk : ∀ h ∈ path.take (path.length - 1), h.length ≤ 5000 := fun h hh => hp h (List.mem_of_mem_take hh)
      have hgd : (path.getD (path.length - 1) []).length ≤ 5000 := by
        rw [List.getD_eq_getElem?_getD]
        rcases hh : path[path.length - 1]? with _ | y
        · simp
        · exact hp y (List.mem_of_getElem? hh)
      have l1 := mt_len (a0 := a0) (a2 := a2) (a5 := a5) hg T b (b + 2 ^ t) (by omega) (by omega)
      have l2 := rootF_len a0 a2 a5 x T b (b + 2 ^ t) leaf _ htk
      by_cases hlt : x < b + 2 ^ t
      · rw [if_pos hlt] at h
        obtain ⟨e1, _⟩ := hcF_inj h0 (by omega) (by omega) h
        exact root_binds h0 hg x T b (b + 2 ^ t) leaf _ (by omega) hb hlt (by omega) (by omega) hl htk e1
      · rw [if_neg hlt] at h
        obtain ⟨_, e1⟩ := hcF_inj h0 (by omega) (by omega) h
        exact root_binds h0 hg x T (b + 2 ^ t) e leaf _ (by omega) (by omega) hx (by omega) h300 hl htk e1
/-- With terms: what a consistency proof that leads to the root of a log says of the first root that it leads to. -/
theorem roots_binds (h0 : a0 ≠ 1) (hg : ∀ i, (g i).length ≤ 5010) (m : Nat) : ∀ (T b e : Nat) (wh : Bool) (pf : List (List Int)) (r : List Int), T ≤ 64 → b < m → m ≤ e → e - b ≤ 2 ^ T → e ≤ 300 → r.length ≤ 100000 → (∀ h ∈ pf, h.length ≤ 5000) → (rootsF a0 a2 a5 m T b e wh pf r).2 = mt a0 a2 a5 g T b e → (rootsF a0 a2 a5 m T b e wh pf r).1 = mt a0 a2 a5 g T b m
  | 0, b, e, wh, pf, r, hT, hb, hm, hw, h300, hr, hp, h => by
    rw [Nat.pow_zero] at hw
    obtain rfl : m = e := by omega
    rw [← h, rootsF]
    split <;> rfl
  | T + 1, b, e, wh, pf, r, hT, hb, hm, hw, h300, hr, hp, h => by
    rw [rootsF] at h ⊢
    by_cases h1 : m = e
    · subst h1
      rw [if_pos rfl] at h ⊢
      rw [← h]
      split <;> rfl
    · rw [if_neg h1] at h ⊢
      obtain ⟨g1, g2⟩ := cut_at (n := e - b) (by omega)
      generalize Nat.log2 (e - b - 1) = t at g1 g2 h ⊢
      have hpt := Nat.two_pow_pos t
      have hq : 2 ^ (t + 1) = 2 * 2 ^ t := by rw [Nat.pow_succ, Nat.mul_comm]
      have p1 : 2 ^ t ≤ 2 ^ T := Nat.pow_le_pow_right (by omega) (fuel_of g1 hw)
      rw [mt_cut g1 g2] at h
      have htk : ∀ h ∈ pf.take (pf.length - 1), h.length ≤ 5000 := fun h hh => hp h (List.mem_of_mem_take hh)
      have hgd : (pf.getD (pf.length - 1) []).length ≤ 5000 := by
        rw [List.getD_eq_getElem?_getD]
        rcases hh : pf[pf.length - 1]? with _ | y
        · simp
        · exact hp y (List.mem_of_getElem? hh)
      have l1 := mt_len (a0 := a0) (a2 := a2) (a5 := a5) hg T b (b + 2 ^ t) (by omega) (by omega)
      by_cases hlt : m ≤ b + 2 ^ t
      · rw [if_pos hlt] at h ⊢
        have l2 := (rootsF_len a0 a2 a5 m T b (b + 2 ^ t) wh _ r 100000 htk hr (by omega)).2
        obtain ⟨e1, _⟩ := hcF_inj h0 (by omega) (by omega) h
        have := roots_binds h0 hg m T b (b + 2 ^ t) wh _ r (by omega) hb hlt (by omega) (by omega) hr htk e1
        dsimp only
        rw [this]
        exact mt_fuel (by omega) (by omega) hb
      · rw [if_neg hlt] at h ⊢
        obtain ⟨e0, e1⟩ := hcF_inj h0 (by omega) (by omega) h
        have := roots_binds h0 hg m T (b + 2 ^ t) e false _ r (by omega) (by omega) hm (by omega) h300 hr htk e1
        dsimp only
        rw [this, e0, mt_cut (t := t) (by omega) (by omega)]
end
end Go.Proofs.YtfhcpniibiobgaaDoor.Pure
