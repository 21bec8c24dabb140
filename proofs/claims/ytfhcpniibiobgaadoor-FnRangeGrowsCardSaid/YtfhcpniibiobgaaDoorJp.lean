/- Several texts, joined. -/
import Derived.Test.YtfhcpniibiobgaaDoorEa
import Derived.Test.YtfhcpniibiobgaaDoorJm
import Derived.Test.YtfhcpniibiobgaaDoorJr
namespace Go.Proofs.YtfhcpniibiobgaaDoor.Pure
open Go.RowKit

/-- The hash of two children. -/
def hcF (a0 a2 a5 : Int) (l1 l2 : List Int) : List Int :=
  if a0 = 1 then Hs.wordF (Hs.mixF a5 (l1 ++ [255] ++ l2)) a2 else [1] ++ Hs.wordF (l1.length : Int) 8 ++ l1 ++ l2
theorem wordF_len (w n : Int) : (Hs.wordF w n).length ≤ 8 := by
  unfold Hs.wordF
  rw [List.length_map, List.length_range]
  exact (Hs.wn_pos n).2
theorem hcF_len (a0 a2 a5 : Int) (l1 l2 : List Int) : (hcF a0 a2 a5 l1 l2).length ≤ l1.length + l2.length + 9 := by
  unfold hcF
  split
  · have := wordF_len (Hs.mixF a5 (l1 ++ [255] ++ l2)) a2
    omega
  · have := wordF_len (l1.length : Int) 8
    simp only [List.length_append, List.length_cons, List.length_nil]
    omega
theorem toyHC (a0 a1 a2 a3 a4 a5 : Int) (l1 l2 : List Int) (h1 : l1.length ≤ 10000000000000) (h2 : l2.length ≤ 10000000000000) : Qf.impl_toy_HashChildren.f a0 a1 a2 a3 a4 a5 l1 l2 = some (hcF a0 a2 a5 l1 l2) := by
  unfold Qf.impl_toy_HashChildren.f hcF
  by_cases h : a0 = 1
  · rw [if_pos h, if_pos h]
    simp only [Qf.impl_mixed.f, Qf.impl_word.f]
    rw [if_pos (by omega)]
    simp only [Option.bind_some]
    rw [if_pos (by simp)]
    simp only [Option.bind_some]
    rw [if_pos (by omega)]
    simp only [Option.bind_some]
    congr 2
    unfold Hs.mixF
    rw [List.foldl_append, List.foldl_append]
  · rw [if_neg h, if_neg h]
    have hw : IntKind.u64.wrap (l1.length : Int) = l1.length := by
      show ((l1.length : Int)) % 18446744073709551616 = l1.length
      omega
    have hl := wordF_len (l1.length : Int) 8
    simp only [Option.bind_some, Qf.impl_word.f, hw]
    rw [if_pos (by simp only [List.length_cons, List.length_nil]; omega), if_pos (by simp only [List.length_append, List.length_cons, List.length_nil]; omega), if_pos (by simp only [List.length_append, List.length_cons, List.length_nil]; omega)]

theorem w64p (n : Int) (h : -9223372036854775808 ≤ n ∧ n ≤ 9223372036854775807) : wrap64 n = n := by unfold wrap64; omega
theorem word_l1 (x : Int) : ∀ (j : Nat) (acc : List Int) (k : Nat), j ≤ 8 → j < k → acc.length ≤ 100 - j → Qf.spec_word.l1 k x acc ((j : Int) - 1) = some (acc ++ (List.range j).map (Hs.wb x j))
  | 0, acc, k + 1, _, _, _ => by
    unfold Qf.spec_word.l1
    rw [if_neg (by omega)]
    simp
  | j + 1, acc, k + 1, h8, hk, ha => by
    unfold Qf.spec_word.l1
    rw [if_pos (by omega), w64p (8 * _) (by omega), if_pos (by omega), if_pos (by omega), w64p _ (by omega), show (((j + 1 : Nat) : Int) - 1 - 1) = (j : Int) - 1 by omega, word_l1 x j _ k (by omega) (by omega) (by simp; omega)]
    rw [List.range_succ_eq_map, List.map_cons, List.map_map, List.append_assoc, List.singleton_append]
    congr 3
    · unfold Hs.wb
      have e : (8 * (((j + 1 : Nat) : Int) - 1)) = ((8 * j : Nat) : Int) := by omega
      rw [e]
      show x / 2 ^ min ((8 * j : Nat) : Int).toNat 64 % 256 = _
      rw [Int.toNat_natCast, Nat.min_eq_left (by omega), show j + 1 - 1 - 0 = j by omega]
    · apply List.map_congr_left
      intro i hi
      have := List.mem_range.1 hi
      show Hs.wb x j i = Hs.wb x (j + 1) (i + 1)
      unfold Hs.wb
      rw [show j + 1 - 1 - (i + 1) = j - 1 - i by omega]

theorem word_tail (x a2 : Int) (k : Nat) (hk : 20 ≤ k) : (if a2 < 1 then Qf.spec_word.j1 k x a2 true else Qf.spec_word.j1 k x a2 (decide (a2 > 8))) = some (Hs.wordF x a2) := by
  obtain ⟨m, rfl⟩ : ∃ m, k = m + 1 + 1 := ⟨k - 2, by omega⟩
  have key : ∀ n : Nat, 1 ≤ n → n ≤ 8 → Qf.spec_word.j2 (m + 1) x (n : Int) = some ((List.range n).map (Hs.wb x n)) := by
    intro n h1 h8
    rw [Qf.spec_word.j2, w64p _ (by omega), word_l1 x n [] m h8 (by omega) (by simp), List.nil_append]
  have e1 : ∀ b, Qf.spec_word.j1 (m + 1 + 1) x a2 b = (if b = true then Qf.spec_word.j2 (m + 1) x 8 else Qf.spec_word.j2 (m + 1) x a2) := fun _ => by rw [Qf.spec_word.j1]
  by_cases h1 : a2 < 1
  · rw [if_pos h1]
    rw [e1, if_pos rfl]
    have := key 8 (by omega) (by omega)
    unfold Hs.wordF Hs.wn
    rw [if_neg (by omega)]
    exact this
  · rw [if_neg h1]
    by_cases h8 : a2 > 8
    · rw [decide_eq_true h8, e1, if_pos rfl]
      have := key 8 (by omega) (by omega)
      unfold Hs.wordF Hs.wn
      rw [if_neg (by omega)]
      exact this
    · rw [decide_eq_false h8, e1, if_neg (by simp)]
      have := key a2.toNat (by omega) (by omega)
      rw [show ((a2.toNat : Nat) : Int) = a2 by omega] at this
      unfold Hs.wordF Hs.wn
      rw [if_pos (by omega)]
      exact this
theorem word_l0 (a0 a1 a2 a3 a4 a5 : Int) (l : List Int) (hl : l.length ≤ 1000000000) : ∀ (m j k : Nat) (x : Int), j + m = l.length → m + 25 ≤ k → Qf.spec_word.l0 k x l (l.length : Int) (j : Int) a0 a1 a2 a3 a4 a5 = some (Hs.wordF (Hs.mixF x (l.drop j)) a2)
  | 0, j, k + 1, x, h, hk => by
    unfold Qf.spec_word.l0
    rw [if_neg (by omega), word_tail x a2 k (by omega), List.drop_eq_nil_of_le (by omega)]
    rfl
  | m + 1, j, k + 1, x, h, hk => by
    have hj : j < l.length := by omega
    have hx : Go.Proofs.YtfhcpniibiobgaaDoorW.PrintWords.rd l (j : Int) = l[j] := by
      show l.getD (j : Int).toNat 0 = l[j]
      rw [Int.toNat_natCast, List.getD_eq_getElem?_getD, List.getElem?_eq_getElem hj]
      rfl
    unfold Qf.spec_word.l0
    rw [if_pos (by omega), if_pos (by omega), if_pos (by omega), hx, w64p _ (by omega), show ((j : Int) + 1) = ((j + 1 : Nat) : Int) by omega, word_l0 a0 a1 a2 a3 a4 a5 l hl m (j + 1) k _ (by omega) (by omega), List.drop_eq_getElem_cons hj]
    rfl
theorem word_f (a0 a1 a2 a3 a4 a5 x : Int) (l : List Int) (hl : l.length ≤ 1000000000) (k : Nat) (hk : l.length + 25 ≤ k) : Qf.spec_word.f k a0 a1 a2 a3 a4 a5 x l = some (Hs.wordF (Hs.mixF x l) a2) := by
  have := word_l0 a0 a1 a2 a3 a4 a5 l hl l.length 0 k x (by omega) hk
  exact this

theorem hc_l0 (l1 l2 : List Int) (h1 : l1.length ≤ 100000000) (h2 : l2.length ≤ 100000000) : ∀ (j : Nat) (acc : List Int) (k : Nat), j ≤ 8 → j < k → acc.length ≤ 100 - j → Qf.spec_HashChildren.l0 k l1 l2 acc (8 * (j : Int) - 8) = some (acc ++ (List.range j).map (Hs.wb (l1.length : Int) j) ++ l1 ++ l2)
  | 0, acc, k + 1, _, _, ha => by
    rw [Qf.spec_HashChildren.l0, if_neg (by omega), if_pos (by omega), Option.bind_some, if_pos (by rw [List.length_append]; omega)]
    simp
  | j + 1, acc, k + 1, h8, hk, ha => by
    have hw : IntKind.u64.wrap (l1.length : Int) = l1.length := by
      show ((l1.length : Int)) % 18446744073709551616 = l1.length
      omega
    rw [Qf.spec_HashChildren.l0, if_pos (by omega), if_pos (by omega), Option.bind_some, if_pos (by simp only [List.length_cons, List.length_nil]; omega), w64p _ (by omega), hw, show (8 * ((j + 1 : Nat) : Int) - 8 - 8) = 8 * (j : Int) - 8 by omega, hc_l0 l1 l2 h1 h2 j _ k (by omega) (by omega) (by simp; omega)]
    rw [List.range_succ_eq_map, List.map_cons, List.map_map, List.append_assoc acc, List.singleton_append]
    congr 5
    · unfold Hs.wb
      have e : (8 * ((j + 1 : Nat) : Int) - 8) = ((8 * j : Nat) : Int) := by omega
      rw [e]
      show (l1.length : Int) / 2 ^ min ((8 * j : Nat) : Int).toNat 64 % 256 = _
      rw [Int.toNat_natCast, Nat.min_eq_left (by omega), show j + 1 - 1 - 0 = j by omega]
    · apply List.map_congr_left
      intro i hi
      have := List.mem_range.1 hi
      show Hs.wb _ j i = Hs.wb _ (j + 1) (i + 1)
      unfold Hs.wb
      rw [show j + 1 - 1 - (i + 1) = j - 1 - i by omega]
theorem specHC (a0 a1 a2 a3 a4 a5 : Int) (l1 l2 : List Int) (h1 : l1.length ≤ 100000000) (h2 : l2.length ≤ 100000000) (k : Nat) (hk : l1.length + l2.length + 40 ≤ k) : Qf.spec_HashChildren.f k a0 a1 a2 a3 a4 a5 l1 l2 = some (hcF a0 a2 a5 l1 l2) := by
  unfold Qf.spec_HashChildren.f hcF Qf.spec_Terms.f
  rw [Option.bind_some]
  by_cases h : a0 = 1
  · rw [if_neg (by simp [h]), if_pos h, Option.bind_some, if_pos (by simp; omega), Option.bind_some, Option.bind_some, if_pos (by simp; omega), Option.bind_some, if_pos (by simp; omega), List.nil_append, word_f a0 a1 a2 a3 a4 a5 a5 (l1 ++ [255] ++ l2) (by simp; omega) k (by simp; omega), Option.bind_some]
  · rw [if_pos (by simpa using h), if_neg h]
    have := hc_l0 l1 l2 h1 h2 8 [1] k (by omega) (by omega) (by simp)
    refine this.trans ?_
    unfold Hs.wordF Hs.wn
    rfl
end Go.Proofs.YtfhcpniibiobgaaDoor.Pure
namespace Go.Proofs.YtfhcpniibiobgaaDoor.Pure
open Go.RowKit Go.Proofs.YtfhcpniibiobgaaDoorW.PrintWords Go.Proofs.YtfhcpniibiobgaaDoorW.PrintMore Go.Proofs.YtfhcpniibiobgaaDoorW.PrintLast

theorem row_at (L : List (List Int)) (j : Nat) (hj : j < L.length) : Qf.rd_L1 L (j : Int) = L[j] := by
  show L.getD (j : Int).toNat [] = L[j]
  rw [Int.toNat_natCast, List.getD_eq_getElem?_getD, List.getElem?_eq_getElem hj]
  rfl
theorem zz_go (L : List (List Int)) (hL : L.length ≤ 2147483647) : ∀ (m j k : Nat), j + m = L.length → m < k → ∃ b, Qf.laws_zzFits2.l0 k L (L.length : Int) (j : Int) = some b
  | 0, j, k + 1, h, _ => by
    rw [Qf.laws_zzFits2.l0, if_neg (by omega)]
    exact ⟨_, rfl⟩
  | m + 1, j, k + 1, h, hk => by
    rw [Qf.laws_zzFits2.l0, if_pos (by omega), if_pos (by omega), if_pos (by omega)]
    split
    · exact ⟨_, rfl⟩
    · rw [w64p _ (by omega), show ((j : Int) + 1) = ((j + 1 : Nat) : Int) by omega]
      exact zz_go L hL m (j + 1) k (by omega) (by omega)
theorem zz_f (L : List (List Int)) (k : Nat) (hk : 2147483648 ≤ k) : ∃ b, Qf.laws_zzFits2.f k L = some b ∧ (b = true → L.length ≤ 2147483647) := by
  unfold Qf.laws_zzFits2.f
  by_cases h : (L.length : Int) > 2147483647
  · rw [if_pos h]
    exact ⟨_, rfl, fun h => by cases h⟩
  · rw [if_neg h]
    obtain ⟨b, hb⟩ := zz_go L (by omega) L.length 0 k (by omega) (by omega)
    exact ⟨b, hb, fun _ => by omega⟩
theorem small_go (L : List (List Int)) (hL : L.length ≤ 2147483647) : ∀ (m j k : Nat), j + m = L.length → m < k → ∃ b, Qf.laws_logSmall.l0 k L L (L.length : Int) (j : Int) = some b ∧ (b = true → L.length ≤ 300 ∧ ∀ h ∈ L.drop j, h.length ≤ 5000)
  | 0, j, k + 1, h, _ => by
    rw [Qf.laws_logSmall.l0, if_neg (by omega)]
    refine ⟨_, rfl, fun hb => ⟨by have := of_decide_eq_true hb; omega, fun x hx => ?_⟩⟩
    rw [List.drop_eq_nil_of_le (by omega)] at hx
    cases hx
  | m + 1, j, k + 1, h, hk => by
    have hj : j < L.length := by omega
    rw [Qf.laws_logSmall.l0, if_pos (by omega), if_pos (by omega), if_pos (by omega), row_at L j hj]
    by_cases hb : (L[j].length : Int) > 5000
    · rw [if_pos hb]
      exact ⟨_, rfl, fun h => by cases h⟩
    · rw [if_neg hb, w64p _ (by omega), show ((j : Int) + 1) = ((j + 1 : Nat) : Int) by omega]
      obtain ⟨b, e, hbt⟩ := small_go L hL m (j + 1) k (by omega) (by omega)
      refine ⟨b, e, fun ht => ⟨(hbt ht).1, fun x hx => ?_⟩⟩
      rw [List.drop_eq_getElem_cons hj] at hx
      rcases List.mem_cons.1 hx with rfl | hx
      · omega
      · exact (hbt ht).2 x hx
theorem small_f (L : List (List Int)) (hL : L.length ≤ 2147483647) (k : Nat) (hk : 2147483648 ≤ k) : ∃ b, Qf.laws_logSmall.f k L = some b ∧ (b = true → L.length ≤ 300 ∧ ∀ h ∈ L, h.length ≤ 5000) := by
  obtain ⟨b, e, h⟩ := small_go L hL L.length 0 k (by omega) (by omega)
  exact ⟨b, e, fun hb => by simpa using h hb⟩

end Go.Proofs.YtfhcpniibiobgaaDoor.Pure
namespace Go.Proofs.YtfhcpniibiobgaaDoor.Pure
open Go.RowKit Go.Proofs.YtfhcpniibiobgaaDoorW.PrintWords Go.Proofs.YtfhcpniibiobgaaDoorW.PrintMore Go.Proofs.YtfhcpniibiobgaaDoorW.PrintLast
open Go.Proofs.YtfhcpniibiobgaaDoor.M (vlen inn vlen_left vlen_right vlen_one)

theorem wu (n : Int) (h : 0 ≤ n ∧ n < 18446744073709551616) : IntKind.u64.wrap n = n := by
  show n % 18446744073709551616 = n
  omega
theorem vlen_pow : ∀ (t i : Nat), t < 64 → i < 2 ^ t → vlen i (2 ^ t) = t
  | 0, i, _, h => by
    obtain rfl : i = 0 := by simpa using h
    exact vlen_one
  | t + 1, i, ht, h => by
    have hq : 2 ^ (t + 1) = 2 * 2 ^ t := by rw [Nat.pow_succ, Nat.mul_comm]
    have hp := Nat.two_pow_pos t
    have h64 : 2 ^ (t + 1) < 2 ^ 64 := Nat.pow_lt_pow_right (by omega) (by omega)
    by_cases hi : i < 2 ^ t
    · exact vlen_left (by omega) hi (by omega) (Nat.le_refl _) h64
    · rw [vlen_right (by omega) (by omega) h (Nat.le_refl _), show 2 ^ (t + 1) - 2 ^ t = 2 ^ t by omega, vlen_pow t (i - 2 ^ t) (by omega) (by omega)]
theorem split_go (n t : Nat) (hn : n < 18446744073709551616) (h1 : 2 ^ t < n) (h2 : n ≤ 2 ^ (t + 1)) : ∀ (d j k : Nat), j + d = t → d < k → Qf.spec_split.l0 k (n : Int) ((2 ^ j : Nat) : Int) = some ((2 ^ t : Nat) : Int)
  | 0, j, k + 1, hj, _ => by
    obtain rfl : j = t := by omega
    have hq : 2 ^ (j + 1) = 2 * 2 ^ j := by rw [Nat.pow_succ, Nat.mul_comm]
    rw [Qf.spec_split.l0, wu _ (by omega), if_neg (by omega)]
  | d + 1, j, k + 1, hj, hk => by
    have hq : 2 ^ (j + 1) = 2 * 2 ^ j := by rw [Nat.pow_succ, Nat.mul_comm]
    have hle : 2 ^ (j + 1) ≤ 2 ^ t := Nat.pow_le_pow_right (by omega) (by omega)
    rw [Qf.spec_split.l0, wu _ (by omega), if_pos (by omega), wu _ (by omega), show (((2 ^ j : Nat) : Int) * 2) = ((2 ^ (j + 1) : Nat) : Int) by omega]
    exact split_go n t hn h1 h2 d (j + 1) k (by omega) (by omega)
theorem log_at (n : Nat) (h : 2 ≤ n) (hn : n < 18446744073709551616) : ∃ t, t < 64 ∧ 2 ^ t < n ∧ n ≤ 2 ^ (t + 1) := by
  have a := Nat.log2_self_le (show n - 1 ≠ 0 by omega)
  have b := Nat.lt_log2_self (n := n - 1)
  refine ⟨Nat.log2 (n - 1), ?_, by omega, by omega⟩
  have : 2 ^ Nat.log2 (n - 1) < 2 ^ 64 := by omega
  exact (Nat.pow_lt_pow_iff_right (by omega)).1 this
end Go.Proofs.YtfhcpniibiobgaaDoor.Pure
namespace Go.Proofs.YtfhcpniibiobgaaDoor.Pure
open Go.RowKit Go.Proofs.YtfhcpniibiobgaaDoorW.PrintWords Go.Proofs.YtfhcpniibiobgaaDoorW.PrintMore Go.Proofs.YtfhcpniibiobgaaDoorW.PrintLast

theorem nat_of_wf {x : Int} (h : (Lit.int .u64 x).wf = true) : ∃ n : Nat, x = (n : Int) ∧ n < 18446744073709551616 := by
  have h2 : IntKind.u64.min ≤ x ∧ x ≤ IntKind.u64.max := by simpa [Lit.wf] using h
  have e1 : IntKind.u64.min = 0 := rfl
  have e2 : IntKind.u64.max = 18446744073709551615 := rfl
  exact ⟨x.toNat, by omega, by omega⟩
theorem texts_go (L : List (List Int)) (hL : L.length ≤ 5864062014804) (hrow : ∀ x ∈ L, x.length < 140737488355328) : ∀ (m j k : Nat), j + m = L.length → m < k → Qf.impl_texts.l0 k (L.take j) L (L.length : Int) (j : Int) = some L
  | 0, j, k + 1, h, _ => by
    unfold Qf.impl_texts.l0
    rw [if_neg (by omega), List.take_of_length_le (by omega)]
  | m + 1, j, k + 1, h, hk => by
    have hj : j < L.length := by omega
    have hx : Qf.rd_L1 L (j : Int) = L[j] := by
      show L.getD (j : Int).toNat [] = L[j]
      rw [Int.toNat_natCast, List.getD_eq_getElem?_getD, List.getElem?_eq_getElem hj]
      rfl
    unfold Qf.impl_texts.l0
    rw [if_pos (by omega), if_pos (by omega), if_pos (by omega), Option.bind_some, hx, List.nil_append, if_pos (by have := hrow L[j] (List.getElem_mem hj); simpa using this), if_pos (by rw [List.length_take]; omega), ← List.take_succ_eq_append_getElem hj, w64p _ (by omega), show ((j : Int) + 1) = ((j + 1 : Nat) : Int) by omega]
    exact texts_go L hL hrow m (j + 1) k (by omega) (by omega)
theorem texts_ok (L : List (List Int)) (k : Nat) (hk : L.length < k) (hL : L.length ≤ 5864062014804) (hrow : ∀ x ∈ L, x.length < 140737488355328) : Qf.impl_texts.f k L = some L := texts_go L hL hrow L.length 0 k (by omega) hk
theorem len64 (z : Nat) (h : z < 18446744073709551616) : Qf.bits_Len64.f (z : Int) = some ((Lib.bitLen z : Nat) : Int) := by
  unfold Qf.bits_Len64.f
  rw [if_pos (by omega), if_pos (by omega), Int.toNat_natCast]
theorem tz64 (z : Nat) (h : z < 18446744073709551616) : Qf.bits_TrailingZeros64.f (z : Int) = some ((Lib.ctz 64 z : Nat) : Int) := by
  unfold Qf.bits_TrailingZeros64.f
  rw [if_pos (by omega), if_pos (by omega), Int.toNat_natCast]
theorem ctz_zero : Lib.ctz 64 0 = 64 := rfl
theorem lt64 {x y : Nat} (hx : x < 18446744073709551616) (hy : y < 18446744073709551616) : x ^^^ y < 18446744073709551616 := Nat.xor_lt_two_pow (n := 64) hx hy
theorem wlast (h : Nat) (h1 : 1 ≤ h) (h2 : h ≤ 64) : IntKind.u64.wrap (wrap64 ((h : Int) - 1)) = ((h - 1 : Nat) : Int) := by
  rw [w64 (by omega) (by omega), wu64 (by omega) (by omega)]
  omega
theorem before (e : Nat) (he : e < 18446744073709551616) : ∃ pe : Nat, IntKind.u64.wrap ((e : Int) - 1) = (pe : Int) ∧ pe < 18446744073709551616 ∧ (e ≠ 0 → pe = e - 1) ∧ (e = 0 → pe = 18446744073709551615) := by
  by_cases h : e = 0
  · subst h
    exact ⟨18446744073709551615, rfl, by omega, fun h => absurd rfl h, fun _ => rfl⟩
  · exact ⟨e - 1, by rw [wu64 (by omega) (by omega)]; omega, by omega, fun _ => rfl, fun h' => absurd h' h⟩
theorem tie_min {h1 h2 : Nat} (t : Int) (u v : Int) (hu : u = ((h2 - 1 : Nat) : Int)) (hv : v = ((h1 - 1 : Nat) : Int)) : (if (h2 : Int) < (h1 : Int) then some (t, u) else some (t, v)) = some (t, ((min h1 h2 - 1 : Nat) : Int)) := by
  by_cases h : h2 < h1
  · rw [if_pos (by omega), hu, show min h1 h2 = h2 by omega]
  · rw [if_neg (by omega), hv, show min h1 h2 = h1 by omega]
end Go.Proofs.YtfhcpniibiobgaaDoor.Pure
namespace Go.Proofs.YtfhcpniibiobgaaDoor.Pure
open Go.RowKit Go.Proofs.YtfhcpniibiobgaaDoorW.PrintWords Go.Proofs.YtfhcpniibiobgaaDoorW.PrintMore Go.Proofs.YtfhcpniibiobgaaDoorW.PrintLast

/-- The hash of a node of a tree. -/
def nd (a0 a2 a5 : Int) (hl : Nat → List Int) : Nat → Nat → List Int
  | 0, i => hl i
  | l + 1, i => hcF a0 a2 a5 (nd a0 a2 a5 hl l (2 * i)) (nd a0 a2 a5 hl l (2 * i + 1))
/-- The hash of the tree over the leaf hashes g b .. g (e - 1). -/
def mt (a0 a2 a5 : Int) (g : Nat → List Int) : Nat → Nat → Nat → List Int
  | 0, b, _ => g b
  | T + 1, b, e => if e - b ≤ 1 then g b else hcF a0 a2 a5 (mt a0 a2 a5 g T b (b + 2 ^ Nat.log2 (e - b - 1))) (mt a0 a2 a5 g T (b + 2 ^ Nat.log2 (e - b - 1)) e)
theorem cut_at {n : Nat} (h : 2 ≤ n) : 2 ^ Nat.log2 (n - 1) < n ∧ n ≤ 2 ^ (Nat.log2 (n - 1) + 1) := by
  have n0 : n - 1 ≠ 0 := by omega
  have h1 := Nat.log2_self_le n0
  have h2 := Nat.lt_log2_self (n := n - 1)
  omega
theorem log_is {n t : Nat} (h1 : 2 ^ t < n) (h2 : n ≤ 2 ^ (t + 1)) : Nat.log2 (n - 1) = t := by
  have hp := Nat.two_pow_pos t
  obtain ⟨g1, g2⟩ := cut_at (n := n) (by omega)
  generalize Nat.log2 (n - 1) = s at g1 g2
  have e1 : s < t + 1 := (Nat.pow_lt_pow_iff_right (by omega : 1 < 2)).1 (Nat.lt_of_lt_of_le g1 h2)
  have e2 : t < s + 1 := (Nat.pow_lt_pow_iff_right (by omega : 1 < 2)).1 (Nat.lt_of_lt_of_le h1 g2)
  omega
section
variable {a0 a1 a2 a3 a4 a5 : Int} {g g' : Nat → List Int}
theorem mt_cut {T b e t : Nat} (h1 : 2 ^ t < e - b) (h2 : e - b ≤ 2 ^ (t + 1)) : mt a0 a2 a5 g (T + 1) b e = hcF a0 a2 a5 (mt a0 a2 a5 g T b (b + 2 ^ t)) (mt a0 a2 a5 g T (b + 2 ^ t) e) := by
  have hp := Nat.two_pow_pos t
  rw [mt, if_neg (by omega), log_is h1 h2]
theorem mt_one {T b e : Nat} (h : e - b ≤ 1) : mt a0 a2 a5 g T b e = g b := by
  cases T with
  | zero => rfl
  | succ T => rw [mt, if_pos h]
theorem fuel_of {T t n : Nat} (h1 : 2 ^ t < n) (h2 : n ≤ 2 ^ (T + 1)) : t ≤ T := by
  have : t < T + 1 := (Nat.pow_lt_pow_iff_right (by omega : 1 < 2)).1 (Nat.lt_of_lt_of_le h1 h2)
  omega
/-- Leaf hashes that are the same, wherever they lie, with fuel enough. -/
theorem mt_shift : ∀ (T T' b e b' e' : Nat), e - b ≤ 2 ^ T → e - b ≤ 2 ^ T' → b < e → b' < e' → e' - b' = e - b → (∀ i, i < e - b → g (b + i) = g' (b' + i)) → mt a0 a2 a5 g T b e = mt a0 a2 a5 g' T' b' e' := by
  intro T
  induction T with
  | zero =>
    intro T' b e b' e' h1 h2 hb hb' he hg
    rw [Nat.pow_zero] at h1
    rw [mt_one (by omega), mt_one (by omega)]
    exact hg 0 (by omega)
  | succ T ih =>
    intro T' b e b' e' h1 h2 hb hb' he hg
    by_cases h : e - b ≤ 1
    · rw [mt_one h, mt_one (by omega)]
      exact hg 0 (by omega)
    · obtain ⟨g1, g2⟩ := cut_at (n := e - b) (by omega)
      generalize Nat.log2 (e - b - 1) = t at g1 g2
      have hp := Nat.two_pow_pos t
      have hq : 2 ^ (t + 1) = 2 * 2 ^ t := by rw [Nat.pow_succ, Nat.mul_comm]
      cases T' with
      | zero =>
        rw [Nat.pow_zero] at h2
        omega
      | succ T' =>
        have f1 := fuel_of g1 h1
        have f2 := fuel_of g1 h2
        have p1 : 2 ^ t ≤ 2 ^ T := Nat.pow_le_pow_right (by omega) f1
        have p2 : 2 ^ t ≤ 2 ^ T' := Nat.pow_le_pow_right (by omega) f2
        rw [mt_cut g1 g2, mt_cut (t := t) (by omega) (by omega)]
        rw [ih T' b (b + 2 ^ t) b' (b' + 2 ^ t) (by omega) (by omega) (by omega) (by omega) (by omega) (fun i hi => hg i (by omega)), ih T' (b + 2 ^ t) e (b' + 2 ^ t) e' (by omega) (by omega) (by omega) (by omega) (by omega) (fun i hi => by
          have := hg (2 ^ t + i) (by omega)
          rwa [← Nat.add_assoc, ← Nat.add_assoc] at this)]
theorem mt_fuel {T T' b e : Nat} (h1 : e - b ≤ 2 ^ T) (h2 : e - b ≤ 2 ^ T') (hb : b < e) : mt a0 a2 a5 g T b e = mt a0 a2 a5 g T' b e := mt_shift T T' b e b e h1 h2 hb hb rfl fun _ _ => rfl
theorem mt_len (h : ∀ i, (g i).length ≤ 5010) : ∀ (T b e : Nat), e - b ≤ 2 ^ T → b < e → (mt a0 a2 a5 g T b e).length + 9 ≤ (e - b) * 5020
  | 0, b, e, hw, hb => by
    have := h b
    rw [mt]
    omega
  | T + 1, b, e, hw, hb => by
    by_cases h1 : e - b ≤ 1
    · have := h b
      rw [mt_one h1]
      omega
    · obtain ⟨g1, g2⟩ := cut_at (n := e - b) (by omega)
      generalize Nat.log2 (e - b - 1) = t at g1 g2
      have hp := Nat.two_pow_pos t
      have hq : 2 ^ (t + 1) = 2 * 2 ^ t := by rw [Nat.pow_succ, Nat.mul_comm]
      have p1 : 2 ^ t ≤ 2 ^ T := Nat.pow_le_pow_right (by omega) (fuel_of g1 hw)
      have i1 := mt_len h T b (b + 2 ^ t) (by omega) (by omega)
      have i2 := mt_len h T (b + 2 ^ t) e (by omega) (by omega)
      rw [mt_cut g1 g2]
      have := hcF_len a0 a2 a5 (mt a0 a2 a5 g T b (b + 2 ^ t)) (mt a0 a2 a5 g T (b + 2 ^ t) e)
      omega
/-- The reference's root. -/
theorem spec_root (M : List (List Int)) : ∀ (T k : Nat) (L : List (List Int)) (b : Nat), 0 < L.length → L.length ≤ 2 ^ T → L.length ≤ 300 → 4000000 + T ≤ k → (∀ i, (M.getD i []).length ≤ 5010) → (∀ i, i < L.length → L.getD i [] = M.getD (b + i) []) → Qf.spec_Root.f k a0 a1 a2 a3 a4 a5 L = some (mt a0 a2 a5 (fun i => M.getD i []) T b (b + L.length)) := by
  intro T
  induction T with
  | zero =>
    intro k L b hp hw h300 hk hM hL
    obtain ⟨k, rfl⟩ : ∃ k', k = k' + 1 := ⟨k - 1, by omega⟩
    rw [Nat.pow_zero] at hw
    rw [Qf.spec_Root.f, if_neg (by omega), if_pos (by omega), if_pos (by omega), mt_one (by omega)]
    exact congrArg some (hL 0 hp)
  | succ T ih =>
    intro k L b hp hw h300 hk hM hL
    obtain ⟨k, rfl⟩ : ∃ k', k = k' + 1 := ⟨k - 1, by omega⟩
    by_cases h1 : L.length ≤ 1
    · rw [Qf.spec_Root.f, if_neg (by omega), if_pos (by omega), if_pos (by omega), mt_one (by omega)]
      exact congrArg some (hL 0 hp)
    · obtain ⟨g1, g2⟩ := cut_at (n := L.length) (by omega)
      generalize Nat.log2 (L.length - 1) = t at g1 g2
      have hpt := Nat.two_pow_pos t
      have hq : 2 ^ (t + 1) = 2 * 2 ^ t := by rw [Nat.pow_succ, Nat.mul_comm]
      have p1 : 2 ^ t ≤ 2 ^ T := Nat.pow_le_pow_right (by omega) (fuel_of g1 hw)
      have ht : t < 64 := by
        have : 2 ^ t < 2 ^ 64 := by omega
        exact (Nat.pow_lt_pow_iff_right (by omega)).1 this
      have hsp : Qf.spec_split.f k ((L.length : Nat) : Int) = some ((2 ^ t : Nat) : Int) := split_go L.length t (by omega) g1 g2 t 0 k (by omega) (by omega)
      have tl : (L.take (2 ^ t)).length = 2 ^ t := by rw [List.length_take]; omega
      have dl : (L.drop (2 ^ t)).length = L.length - 2 ^ t := List.length_drop
      have i1 := ih k (L.take (2 ^ t)) b (by omega) (by omega) (by omega) (by omega) hM (fun i hi => by
        rw [← hL i (by omega), List.getD_eq_getElem?_getD, List.getD_eq_getElem?_getD, List.getElem?_take_of_lt (by omega)])
      have i2 := ih k (L.drop (2 ^ t)) (b + 2 ^ t) (by omega) (by omega) (by omega) (by omega) hM (fun i hi => by
        rw [Nat.add_assoc, ← hL (2 ^ t + i) (by omega), List.getD_eq_getElem?_getD, List.getD_eq_getElem?_getD, List.getElem?_drop])
      rw [tl] at i1
      rw [dl, show b + 2 ^ t + (L.length - 2 ^ t) = b + L.length by omega] at i2
      have l1 := mt_len (a0 := a0) (a2 := a2) (a5 := a5) hM T b (b + 2 ^ t) (by omega) (by omega)
      have l2 := mt_len (a0 := a0) (a2 := a2) (a5 := a5) hM T (b + 2 ^ t) (b + L.length) (by omega) (by omega)
      rw [Qf.spec_Root.f, if_neg (by omega), if_neg (by omega), wu _ (by omega), hsp, Option.bind_some, if_pos (by omega), if_pos (by omega), Int.toNat_natCast, i1, Option.bind_some, i2, Option.bind_some, specHC a0 a1 a2 a3 a4 a5 _ _ (by omega) (by omega) k (by omega), Option.bind_some, mt_cut (t := t) (by omega) (by omega)]
/-- A whole node of the tree. -/
theorem nd_mt : ∀ (l i T : Nat), l ≤ T → nd a0 a2 a5 g l i = mt a0 a2 a5 g T (i * 2 ^ l) ((i + 1) * 2 ^ l)
  | 0, i, T, _ => by
    rw [Nat.pow_zero, Nat.mul_one, Nat.mul_one, mt_one (by omega), nd]
  | l + 1, i, T, h => by
    obtain ⟨T, rfl⟩ : ∃ T', T = T' + 1 := ⟨T - 1, by omega⟩
    have hp := Nat.two_pow_pos l
    have hq : 2 ^ (l + 1) = 2 * 2 ^ l := by rw [Nat.pow_succ, Nat.mul_comm]
    have e1 : (i + 1) * 2 ^ (l + 1) = i * 2 ^ (l + 1) + 2 ^ (l + 1) := Nat.succ_mul _ _
    have q1 : i * 2 ^ (l + 1) = 2 * i * 2 ^ l := by rw [hq, ← Nat.mul_assoc, Nat.mul_comm i 2]
    have e2 : (2 * i + 1) * 2 ^ l = 2 * i * 2 ^ l + 2 ^ l := Nat.succ_mul _ _
    have e3 : (2 * i + 1 + 1) * 2 ^ l = (2 * i + 1) * 2 ^ l + 2 ^ l := Nat.succ_mul _ _
    have i1 := nd_mt l (2 * i) T (by omega)
    have i2 := nd_mt l (2 * i + 1) T (by omega)
    rw [nd, i1, i2, mt_cut (t := l) (by omega) (by omega), q1, e2, e1, q1, e3, e2, hq, show 2 * i * 2 ^ l + 2 ^ l + 2 ^ l = 2 * i * 2 ^ l + 2 * 2 ^ l by omega]
end
end Go.Proofs.YtfhcpniibiobgaaDoor.Pure
