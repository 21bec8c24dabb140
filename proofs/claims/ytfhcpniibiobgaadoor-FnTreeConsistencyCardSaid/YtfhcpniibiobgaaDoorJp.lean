/- Several texts, joined. -/
import Derived.Test.YtfhcpniibiobgaaDoorJn
import Derived.Test.YtfhcpniibiobgaaDoorJm
namespace Go.Proofs.YtfhcpniibiobgaaDoor.Pure
open Go.RowKit

/-- The hash of two children. -/
def hcF (a0 a2 a5 : Int) (l1 l2 : List Int) : List Int :=
  if a0 = 1 then Hs.wordF (Hs.mixF a5 (l1 ++ [255] ++ l2)) a2 else [1] ++ Hs.wordF (l1.length : Int) 8 ++ l1 ++ l2
theorem wordF_len (w n : Int) : (Hs.wordF w n).length ≤ 8 := by
  unfold Hs.wordF
  rw [List.length_map, List.length_range]
  exact (Hs.wn_pos n).2
theorem hcF_len (a0 a2 a5 : Int) (l1 l2 : List Int) : (hcF a0 a2 a5 l1 l2).length ≤ l1.length + l2.length + 9 := by
  unfold hcF
  split
  · have := wordF_len (Hs.mixF a5 (l1 ++ [255] ++ l2)) a2
    omega
  · have := wordF_len (l1.length : Int) 8
    simp only [List.length_append, List.length_cons, List.length_nil]
    omega
theorem toyHC (a0 a1 a2 a3 a4 a5 : Int) (l1 l2 : List Int) (h1 : l1.length ≤ 10000000000000) (h2 : l2.length ≤ 10000000000000) : Qf.impl_toy_HashChildren.f a0 a1 a2 a3 a4 a5 l1 l2 = some (hcF a0 a2 a5 l1 l2) := by
  unfold Qf.impl_toy_HashChildren.f hcF
  by_cases h : a0 = 1
  · rw [if_pos h, if_pos h]
    simp only [Qf.impl_mixed.f, Qf.impl_word.f]
    rw [if_pos (by omega)]
    simp only [Option.bind_some]
    rw [if_pos (by simp)]
    simp only [Option.bind_some]
    rw [if_pos (by omega)]
    simp only [Option.bind_some]
    congr 2
    unfold Hs.mixF
    rw [List.foldl_append, List.foldl_append]
  · rw [if_neg h, if_neg h]
    have hw : IntKind.u64.wrap (l1.length : Int) = l1.length := by
      show ((l1.length : Int)) % 18446744073709551616 = l1.length
      omega
    have hl := wordF_len (l1.length : Int) 8
    simp only [Option.bind_some, Qf.impl_word.f, hw]
    rw [if_pos (by simp only [List.length_cons, List.length_nil]; omega), if_pos (by simp only [List.length_append, List.length_cons, List.length_nil]; omega), if_pos (by simp only [List.length_append, List.length_cons, List.length_nil]; omega)]

theorem w64p (n : Int) (h : -9223372036854775808 ≤ n ∧ n ≤ 9223372036854775807) : wrap64 n = n := by unfold wrap64; omega
theorem word_l1 (x : Int) : ∀ (j : Nat) (acc : List Int) (k : Nat), j ≤ 8 → j < k → acc.length ≤ 100 - j → Qf.spec_word.l1 k x acc ((j : Int) - 1) = some (acc ++ (List.range j).map (Hs.wb x j))
  | 0, acc, k + 1, _, _, _ => by
    unfold Qf.spec_word.l1
    rw [if_neg (by omega)]
    simp
  | j + 1, acc, k + 1, h8, hk, ha => by
    unfold Qf.spec_word.l1
    rw [if_pos (by omega), w64p (8 * _) (by omega), if_pos (by omega), if_pos (by omega), w64p _ (by omega), show (((j + 1 : Nat) : Int) - 1 - 1) = (j : Int) - 1 by omega, word_l1 x j _ k (by omega) (by omega) (by simp; omega)]
    rw [List.range_succ_eq_map, List.map_cons, List.map_map, List.append_assoc, List.singleton_append]
    congr 3
    · unfold Hs.wb
      have e : (8 * (((j + 1 : Nat) : Int) - 1)) = ((8 * j : Nat) : Int) := by omega
      rw [e]
      show x / 2 ^ min ((8 * j : Nat) : Int).toNat 64 % 256 = _
      rw [Int.toNat_natCast, Nat.min_eq_left (by omega), show j + 1 - 1 - 0 = j by omega]
    · apply List.map_congr_left
      intro i hi
      have := List.mem_range.1 hi
      show Hs.wb x j i = Hs.wb x (j + 1) (i + 1)
      unfold Hs.wb
      rw [show j + 1 - 1 - (i + 1) = j - 1 - i by omega]

theorem word_tail (x a2 : Int) (k : Nat) (hk : 20 ≤ k) : (if a2 < 1 then Qf.spec_word.j1 k x a2 true else Qf.spec_word.j1 k x a2 (decide (a2 > 8))) = some (Hs.wordF x a2) := by
  obtain ⟨m, rfl⟩ : ∃ m, k = m + 1 + 1 := ⟨k - 2, by omega⟩
  have key : ∀ n : Nat, 1 ≤ n → n ≤ 8 → Qf.spec_word.j2 (m + 1) x (n : Int) = some ((List.range n).map (Hs.wb x n)) := by
    intro n h1 h8
    rw [Qf.spec_word.j2, w64p _ (by omega), word_l1 x n [] m h8 (by omega) (by simp), List.nil_append]
  have e1 : ∀ b, Qf.spec_word.j1 (m + 1 + 1) x a2 b = (if b = true then Qf.spec_word.j2 (m + 1) x 8 else Qf.spec_word.j2 (m + 1) x a2) := fun _ => by rw [Qf.spec_word.j1]
  by_cases h1 : a2 < 1
  · rw [if_pos h1]
    rw [e1, if_pos rfl]
    have := key 8 (by omega) (by omega)
    unfold Hs.wordF Hs.wn
    rw [if_neg (by omega)]
    exact this
  · rw [if_neg h1]
    by_cases h8 : a2 > 8
    · rw [decide_eq_true h8, e1, if_pos rfl]
      have := key 8 (by omega) (by omega)
      unfold Hs.wordF Hs.wn
      rw [if_neg (by omega)]
      exact this
    · rw [decide_eq_false h8, e1, if_neg (by simp)]
      have := key a2.toNat (by omega) (by omega)
      rw [show ((a2.toNat : Nat) : Int) = a2 by omega] at this
      unfold Hs.wordF Hs.wn
      rw [if_pos (by omega)]
      exact this
theorem word_l0 (a0 a1 a2 a3 a4 a5 : Int) (l : List Int) (hl : l.length ≤ 1000000000) : ∀ (m j k : Nat) (x : Int), j + m = l.length → m + 25 ≤ k → Qf.spec_word.l0 k x l (l.length : Int) (j : Int) a0 a1 a2 a3 a4 a5 = some (Hs.wordF (Hs.mixF x (l.drop j)) a2)
  | 0, j, k + 1, x, h, hk => by
    unfold Qf.spec_word.l0
    rw [if_neg (by omega), word_tail x a2 k (by omega), List.drop_eq_nil_of_le (by omega)]
    rfl
  | m + 1, j, k + 1, x, h, hk => by
    have hj : j < l.length := by omega
    have hx : Go.Proofs.YtfhcpniibiobgaaDoorW.PrintWords.rd l (j : Int) = l[j] := by
      show l.getD (j : Int).toNat 0 = l[j]
      rw [Int.toNat_natCast, List.getD_eq_getElem?_getD, List.getElem?_eq_getElem hj]
      rfl
    unfold Qf.spec_word.l0
    rw [if_pos (by omega), if_pos (by omega), if_pos (by omega), hx, w64p _ (by omega), show ((j : Int) + 1) = ((j + 1 : Nat) : Int) by omega, word_l0 a0 a1 a2 a3 a4 a5 l hl m (j + 1) k _ (by omega) (by omega), List.drop_eq_getElem_cons hj]
    rfl
theorem word_f (a0 a1 a2 a3 a4 a5 x : Int) (l : List Int) (hl : l.length ≤ 1000000000) (k : Nat) (hk : l.length + 25 ≤ k) : Qf.spec_word.f k a0 a1 a2 a3 a4 a5 x l = some (Hs.wordF (Hs.mixF x l) a2) := by
  have := word_l0 a0 a1 a2 a3 a4 a5 l hl l.length 0 k x (by omega) hk
  exact this

theorem hc_l0 (l1 l2 : List Int) (h1 : l1.length ≤ 100000000) (h2 : l2.length ≤ 100000000) : ∀ (j : Nat) (acc : List Int) (k : Nat), j ≤ 8 → j < k → acc.length ≤ 100 - j → Qf.spec_HashChildren.l0 k l1 l2 acc (8 * (j : Int) - 8) = some (acc ++ (List.range j).map (Hs.wb (l1.length : Int) j) ++ l1 ++ l2)
  | 0, acc, k + 1, _, _, ha => by
    rw [Qf.spec_HashChildren.l0, if_neg (by omega), if_pos (by omega), Option.bind_some, if_pos (by rw [List.length_append]; omega)]
    simp
  | j + 1, acc, k + 1, h8, hk, ha => by
    have hw : IntKind.u64.wrap (l1.length : Int) = l1.length := by
      show ((l1.length : Int)) % 18446744073709551616 = l1.length
      omega
    rw [Qf.spec_HashChildren.l0, if_pos (by omega), if_pos (by omega), Option.bind_some, if_pos (by simp only [List.length_cons, List.length_nil]; omega), w64p _ (by omega), hw, show (8 * ((j + 1 : Nat) : Int) - 8 - 8) = 8 * (j : Int) - 8 by omega, hc_l0 l1 l2 h1 h2 j _ k (by omega) (by omega) (by simp; omega)]
    rw [List.range_succ_eq_map, List.map_cons, List.map_map, List.append_assoc acc, List.singleton_append]
    congr 5
    · unfold Hs.wb
      have e : (8 * ((j + 1 : Nat) : Int) - 8) = ((8 * j : Nat) : Int) := by omega
      rw [e]
      show (l1.length : Int) / 2 ^ min ((8 * j : Nat) : Int).toNat 64 % 256 = _
      rw [Int.toNat_natCast, Nat.min_eq_left (by omega), show j + 1 - 1 - 0 = j by omega]
    · apply List.map_congr_left
      intro i hi
      have := List.mem_range.1 hi
      show Hs.wb _ j i = Hs.wb _ (j + 1) (i + 1)
      unfold Hs.wb
      rw [show j + 1 - 1 - (i + 1) = j - 1 - i by omega]
theorem specHC (a0 a1 a2 a3 a4 a5 : Int) (l1 l2 : List Int) (h1 : l1.length ≤ 100000000) (h2 : l2.length ≤ 100000000) (k : Nat) (hk : l1.length + l2.length + 40 ≤ k) : Qf.spec_HashChildren.f k a0 a1 a2 a3 a4 a5 l1 l2 = some (hcF a0 a2 a5 l1 l2) := by
  unfold Qf.spec_HashChildren.f hcF Qf.spec_Terms.f
  rw [Option.bind_some]
  by_cases h : a0 = 1
  · rw [if_neg (by simp [h]), if_pos h, Option.bind_some, if_pos (by simp; omega), Option.bind_some, Option.bind_some, if_pos (by simp; omega), Option.bind_some, if_pos (by simp; omega), List.nil_append, word_f a0 a1 a2 a3 a4 a5 a5 (l1 ++ [255] ++ l2) (by simp; omega) k (by simp; omega), Option.bind_some]
  · rw [if_pos (by simpa using h), if_neg h]
    have := hc_l0 l1 l2 h1 h2 8 [1] k (by omega) (by omega) (by simp)
    refine this.trans ?_
    unfold Hs.wordF Hs.wn
    rfl
end Go.Proofs.YtfhcpniibiobgaaDoor.Pure
namespace Go.Proofs.YtfhcpniibiobgaaDoor.Pure
open Go.RowKit Go.Proofs.YtfhcpniibiobgaaDoorW.PrintWords Go.Proofs.YtfhcpniibiobgaaDoorW.PrintMore Go.Proofs.YtfhcpniibiobgaaDoorW.PrintLast

/-- Bit i of an index. -/
abbrev bitI (ix : Int) (i : Nat) : Int := Go.bits .and .u64 (ix / 2 ^ min i 64) 1
def chI (a0 a2 a5 ix : Int) : List (List Int) → List Int → Nat → List Int
  | [], s, _ => s
  | h :: t, s, i => chI a0 a2 a5 ix t (if bitI ix i = 0 then hcF a0 a2 a5 s h else hcF a0 a2 a5 h s) (i + 1)
def chB (a0 a2 a5 : Int) : List (List Int) → List Int → List Int
  | [], s => s
  | h :: t, s => chB a0 a2 a5 t (hcF a0 a2 a5 h s)
theorem chI_len (a0 a2 a5 ix : Int) : ∀ (l : List (List Int)) (s : List Int) (i : Nat), (∀ h ∈ l, h.length ≤ 5000) → (chI a0 a2 a5 ix l s i).length ≤ s.length + 5009 * l.length
  | [], s, i, _ => by simp [chI]
  | h :: t, s, i, hl => by
    have h1 := hl h (by simp)
    have e1 := hcF_len a0 a2 a5 s h
    have e2 := hcF_len a0 a2 a5 h s
    rw [chI, List.length_cons]
    split
    · have := chI_len a0 a2 a5 ix t (hcF a0 a2 a5 s h) (i + 1) (fun x hx => hl x (by simp [hx]))
      omega
    · have := chI_len a0 a2 a5 ix t (hcF a0 a2 a5 h s) (i + 1) (fun x hx => hl x (by simp [hx]))
      omega
theorem chB_len (a0 a2 a5 : Int) : ∀ (l : List (List Int)) (s : List Int), (∀ h ∈ l, h.length ≤ 5000) → (chB a0 a2 a5 l s).length ≤ s.length + 5009 * l.length
  | [], s, _ => by simp [chB]
  | h :: t, s, hl => by
    have h1 := hl h (by simp)
    have e2 := hcF_len a0 a2 a5 h s
    rw [chB, List.length_cons]
    have := chB_len a0 a2 a5 t (hcF a0 a2 a5 h s) (fun x hx => hl x (by simp [hx]))
    omega
end Go.Proofs.YtfhcpniibiobgaaDoor.Pure
namespace Go.Proofs.YtfhcpniibiobgaaDoor.Pure
open Go.RowKit Go.Proofs.YtfhcpniibiobgaaDoorW.PrintWords Go.Proofs.YtfhcpniibiobgaaDoorW.PrintMore Go.Proofs.YtfhcpniibiobgaaDoorW.PrintLast

theorem row_at (L : List (List Int)) (j : Nat) (hj : j < L.length) : Qf.rd_L1 L (j : Int) = L[j] := by
  show L.getD (j : Int).toNat [] = L[j]
  rw [Int.toNat_natCast, List.getD_eq_getElem?_getD, List.getElem?_eq_getElem hj]
  rfl
theorem zz_go (L : List (List Int)) (hL : L.length ≤ 2147483647) : ∀ (m j k : Nat), j + m = L.length → m < k → ∃ b, Qf.laws_zzFits2.l0 k L (L.length : Int) (j : Int) = some b
  | 0, j, k + 1, h, _ => by
    rw [Qf.laws_zzFits2.l0, if_neg (by omega)]
    exact ⟨_, rfl⟩
  | m + 1, j, k + 1, h, hk => by
    rw [Qf.laws_zzFits2.l0, if_pos (by omega), if_pos (by omega), if_pos (by omega)]
    split
    · exact ⟨_, rfl⟩
    · rw [w64p _ (by omega), show ((j : Int) + 1) = ((j + 1 : Nat) : Int) by omega]
      exact zz_go L hL m (j + 1) k (by omega) (by omega)
theorem zz_f (L : List (List Int)) (k : Nat) (hk : 2147483648 ≤ k) : ∃ b, Qf.laws_zzFits2.f k L = some b ∧ (b = true → L.length ≤ 2147483647) := by
  unfold Qf.laws_zzFits2.f
  by_cases h : (L.length : Int) > 2147483647
  · rw [if_pos h]
    exact ⟨_, rfl, fun h => by cases h⟩
  · rw [if_neg h]
    obtain ⟨b, hb⟩ := zz_go L (by omega) L.length 0 k (by omega) (by omega)
    exact ⟨b, hb, fun _ => by omega⟩
theorem small_go (L : List (List Int)) (hL : L.length ≤ 2147483647) : ∀ (m j k : Nat), j + m = L.length → m < k → ∃ b, Qf.laws_logSmall.l0 k L L (L.length : Int) (j : Int) = some b ∧ (b = true → L.length ≤ 300 ∧ ∀ h ∈ L.drop j, h.length ≤ 5000)
  | 0, j, k + 1, h, _ => by
    rw [Qf.laws_logSmall.l0, if_neg (by omega)]
    refine ⟨_, rfl, fun hb => ⟨by have := of_decide_eq_true hb; omega, fun x hx => ?_⟩⟩
    rw [List.drop_eq_nil_of_le (by omega)] at hx
    cases hx
  | m + 1, j, k + 1, h, hk => by
    have hj : j < L.length := by omega
    rw [Qf.laws_logSmall.l0, if_pos (by omega), if_pos (by omega), if_pos (by omega), row_at L j hj]
    by_cases hb : (L[j].length : Int) > 5000
    · rw [if_pos hb]
      exact ⟨_, rfl, fun h => by cases h⟩
    · rw [if_neg hb, w64p _ (by omega), show ((j : Int) + 1) = ((j + 1 : Nat) : Int) by omega]
      obtain ⟨b, e, hbt⟩ := small_go L hL m (j + 1) k (by omega) (by omega)
      refine ⟨b, e, fun ht => ⟨(hbt ht).1, fun x hx => ?_⟩⟩
      rw [List.drop_eq_getElem_cons hj] at hx
      rcases List.mem_cons.1 hx with rfl | hx
      · omega
      · exact (hbt ht).2 x hx
theorem small_f (L : List (List Int)) (hL : L.length ≤ 2147483647) (k : Nat) (hk : 2147483648 ≤ k) : ∃ b, Qf.laws_logSmall.f k L = some b ∧ (b = true → L.length ≤ 300 ∧ ∀ h ∈ L, h.length ≤ 5000) := by
  obtain ⟨b, e, h⟩ := small_go L hL L.length 0 k (by omega) (by omega)
  exact ⟨b, e, fun hb => by simpa using h hb⟩

end Go.Proofs.YtfhcpniibiobgaaDoor.Pure
namespace Go.Proofs.YtfhcpniibiobgaaDoor.Pure
open Go.RowKit Go.Proofs.YtfhcpniibiobgaaDoorW.PrintWords Go.Proofs.YtfhcpniibiobgaaDoorW.PrintMore Go.Proofs.YtfhcpniibiobgaaDoorW.PrintLast
open Go.Proofs.YtfhcpniibiobgaaDoor.M (vlen inn vlen_left vlen_right vlen_one)

theorem wu (n : Int) (h : 0 ≤ n ∧ n < 18446744073709551616) : IntKind.u64.wrap n = n := by
  show n % 18446744073709551616 = n
  omega
theorem vlen_pow : ∀ (t i : Nat), t < 64 → i < 2 ^ t → vlen i (2 ^ t) = t
  | 0, i, _, h => by
    obtain rfl : i = 0 := by simpa using h
    exact vlen_one
  | t + 1, i, ht, h => by
    have hq : 2 ^ (t + 1) = 2 * 2 ^ t := by rw [Nat.pow_succ, Nat.mul_comm]
    have hp := Nat.two_pow_pos t
    have h64 : 2 ^ (t + 1) < 2 ^ 64 := Nat.pow_lt_pow_right (by omega) (by omega)
    by_cases hi : i < 2 ^ t
    · exact vlen_left (by omega) hi (by omega) (Nat.le_refl _) h64
    · rw [vlen_right (by omega) (by omega) h (Nat.le_refl _), show 2 ^ (t + 1) - 2 ^ t = 2 ^ t by omega, vlen_pow t (i - 2 ^ t) (by omega) (by omega)]
theorem split_go (n t : Nat) (hn : n < 18446744073709551616) (h1 : 2 ^ t < n) (h2 : n ≤ 2 ^ (t + 1)) : ∀ (d j k : Nat), j + d = t → d < k → Qf.spec_split.l0 k (n : Int) ((2 ^ j : Nat) : Int) = some ((2 ^ t : Nat) : Int)
  | 0, j, k + 1, hj, _ => by
    obtain rfl : j = t := by omega
    have hq : 2 ^ (j + 1) = 2 * 2 ^ j := by rw [Nat.pow_succ, Nat.mul_comm]
    rw [Qf.spec_split.l0, wu _ (by omega), if_neg (by omega)]
  | d + 1, j, k + 1, hj, hk => by
    have hq : 2 ^ (j + 1) = 2 * 2 ^ j := by rw [Nat.pow_succ, Nat.mul_comm]
    have hle : 2 ^ (j + 1) ≤ 2 ^ t := Nat.pow_le_pow_right (by omega) (by omega)
    rw [Qf.spec_split.l0, wu _ (by omega), if_pos (by omega), wu _ (by omega), show (((2 ^ j : Nat) : Int) * 2) = ((2 ^ (j + 1) : Nat) : Int) by omega]
    exact split_go n t hn h1 h2 d (j + 1) k (by omega) (by omega)
theorem log_at (n : Nat) (h : 2 ≤ n) (hn : n < 18446744073709551616) : ∃ t, t < 64 ∧ 2 ^ t < n ∧ n ≤ 2 ^ (t + 1) := by
  have a := Nat.log2_self_le (show n - 1 ≠ 0 by omega)
  have b := Nat.lt_log2_self (n := n - 1)
  refine ⟨Nat.log2 (n - 1), ?_, by omega, by omega⟩
  have : 2 ^ Nat.log2 (n - 1) < 2 ^ 64 := by omega
  exact (Nat.pow_lt_pow_iff_right (by omega)).1 this
end Go.Proofs.YtfhcpniibiobgaaDoor.Pure
