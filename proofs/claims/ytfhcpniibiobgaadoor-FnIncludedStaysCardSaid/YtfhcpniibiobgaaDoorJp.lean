/- Several texts, joined. -/
import Derived.Test.YtfhcpniibiobgaaDoorJc
import Derived.Test.YtfhcpniibiobgaaDoorJm
namespace Go.Proofs.YtfhcpniibiobgaaDoor.Pure
open Go.RowKit

/-- The hash of two children. -/
def hcF (a0 a2 a5 : Int) (l1 l2 : List Int) : List Int :=
  if a0 = 1 then Hs.wordF (Hs.mixF a5 (l1 ++ [255] ++ l2)) a2 else [1] ++ Hs.wordF (l1.length : Int) 8 ++ l1 ++ l2
theorem wordF_len (w n : Int) : (Hs.wordF w n).length ≤ 8 := by
  unfold Hs.wordF
  rw [List.length_map, List.length_range]
  exact (Hs.wn_pos n).2
theorem hcF_len (a0 a2 a5 : Int) (l1 l2 : List Int) : (hcF a0 a2 a5 l1 l2).length ≤ l1.length + l2.length + 9 := by
  unfold hcF
  split
  · have := wordF_len (Hs.mixF a5 (l1 ++ [255] ++ l2)) a2
    omega
  · have := wordF_len (l1.length : Int) 8
    simp only [List.length_append, List.length_cons, List.length_nil]
    omega
theorem toyHC (a0 a1 a2 a3 a4 a5 : Int) (l1 l2 : List Int) (h1 : l1.length ≤ 10000000000000) (h2 : l2.length ≤ 10000000000000) : Qf.impl_toy_HashChildren.f a0 a1 a2 a3 a4 a5 l1 l2 = some (hcF a0 a2 a5 l1 l2) := by
  unfold Qf.impl_toy_HashChildren.f hcF
  by_cases h : a0 = 1
  · rw [if_pos h, if_pos h]
    simp only [Qf.impl_mixed.f, Qf.impl_word.f]
    rw [if_pos (by omega)]
    simp only [Option.bind_some]
    rw [if_pos (by simp)]
    simp only [Option.bind_some]
    rw [if_pos (by omega)]
    simp only [Option.bind_some]
    congr 2
    unfold Hs.mixF
    rw [List.foldl_append, List.foldl_append]
  · rw [if_neg h, if_neg h]
    have hw : IntKind.u64.wrap (l1.length : Int) = l1.length := by
      show ((l1.length : Int)) % 18446744073709551616 = l1.length
      omega
    have hl := wordF_len (l1.length : Int) 8
    simp only [Option.bind_some, Qf.impl_word.f, hw]
    rw [if_pos (by simp only [List.length_cons, List.length_nil]; omega), if_pos (by simp only [List.length_append, List.length_cons, List.length_nil]; omega), if_pos (by simp only [List.length_append, List.length_cons, List.length_nil]; omega)]

theorem w64p (n : Int) (h : -9223372036854775808 ≤ n ∧ n ≤ 9223372036854775807) : wrap64 n = n := by unfold wrap64; omega
theorem word_l1 (x : Int) : ∀ (j : Nat) (acc : List Int) (k : Nat), j ≤ 8 → j < k → acc.length ≤ 100 - j → Qf.spec_word.l1 k x acc ((j : Int) - 1) = some (acc ++ (List.range j).map (Hs.wb x j))
  | 0, acc, k + 1, _, _, _ => by
    unfold Qf.spec_word.l1
    rw [if_neg (by omega)]
    simp
  | j + 1, acc, k + 1, h8, hk, ha => by
    unfold Qf.spec_word.l1
    rw [if_pos (by omega), w64p (8 * _) (by omega), if_pos (by omega), if_pos (by omega), w64p _ (by omega), show (((j + 1 : Nat) : Int) - 1 - 1) = (j : Int) - 1 by omega, word_l1 x j _ k (by omega) (by omega) (by simp; omega)]
    rw [List.range_succ_eq_map, List.map_cons, List.map_map, List.append_assoc, List.singleton_append]
    congr 3
    · unfold Hs.wb
      have e : (8 * (((j + 1 : Nat) : Int) - 1)) = ((8 * j : Nat) : Int) := by omega
      rw [e]
      show x / 2 ^ min ((8 * j : Nat) : Int).toNat 64 % 256 = _
      rw [Int.toNat_natCast, Nat.min_eq_left (by omega), show j + 1 - 1 - 0 = j by omega]
    · apply List.map_congr_left
      intro i hi
      have := List.mem_range.1 hi
      show Hs.wb x j i = Hs.wb x (j + 1) (i + 1)
      unfold Hs.wb
      rw [show j + 1 - 1 - (i + 1) = j - 1 - i by omega]

theorem word_tail (x a2 : Int) (k : Nat) (hk : 20 ≤ k) : (if a2 < 1 then Qf.spec_word.j1 k x a2 true else Qf.spec_word.j1 k x a2 (decide (a2 > 8))) = some (Hs.wordF x a2) := by
  obtain ⟨m, rfl⟩ : ∃ m, k = m + 1 + 1 := ⟨k - 2, by omega⟩
  have key : ∀ n : Nat, 1 ≤ n → n ≤ 8 → Qf.spec_word.j2 (m + 1) x (n : Int) = some ((List.range n).map (Hs.wb x n)) := by
    intro n h1 h8
    rw [Qf.spec_word.j2, w64p _ (by omega), word_l1 x n [] m h8 (by omega) (by simp), List.nil_append]
  have e1 : ∀ b, Qf.spec_word.j1 (m + 1 + 1) x a2 b = (if b = true then Qf.spec_word.j2 (m + 1) x 8 else Qf.spec_word.j2 (m + 1) x a2) := fun _ => by rw [Qf.spec_word.j1]
  by_cases h1 : a2 < 1
  · rw [if_pos h1]
    rw [e1, if_pos rfl]
    have := key 8 (by omega) (by omega)
    unfold Hs.wordF Hs.wn
    rw [if_neg (by omega)]
    exact this
  · rw [if_neg h1]
    by_cases h8 : a2 > 8
    · rw [decide_eq_true h8, e1, if_pos rfl]
      have := key 8 (by omega) (by omega)
      unfold Hs.wordF Hs.wn
      rw [if_neg (by omega)]
      exact this
    · rw [decide_eq_false h8, e1, if_neg (by simp)]
      have := key a2.toNat (by omega) (by omega)
      rw [show ((a2.toNat : Nat) : Int) = a2 by omega] at this
      unfold Hs.wordF Hs.wn
      rw [if_pos (by omega)]
      exact this
theorem word_l0 (a0 a1 a2 a3 a4 a5 : Int) (l : List Int) (hl : l.length ≤ 1000000000) : ∀ (m j k : Nat) (x : Int), j + m = l.length → m + 25 ≤ k → Qf.spec_word.l0 k x l (l.length : Int) (j : Int) a0 a1 a2 a3 a4 a5 = some (Hs.wordF (Hs.mixF x (l.drop j)) a2)
  | 0, j, k + 1, x, h, hk => by
    unfold Qf.spec_word.l0
    rw [if_neg (by omega), word_tail x a2 k (by omega), List.drop_eq_nil_of_le (by omega)]
    rfl
  | m + 1, j, k + 1, x, h, hk => by
    have hj : j < l.length := by omega
    have hx : Go.Proofs.YtfhcpniibiobgaaDoorW.PrintWords.rd l (j : Int) = l[j] := by
      show l.getD (j : Int).toNat 0 = l[j]
      rw [Int.toNat_natCast, List.getD_eq_getElem?_getD, List.getElem?_eq_getElem hj]
      rfl
    unfold Qf.spec_word.l0
    rw [if_pos (by omega), if_pos (by omega), if_pos (by omega), hx, w64p _ (by omega), show ((j : Int) + 1) = ((j + 1 : Nat) : Int) by omega, word_l0 a0 a1 a2 a3 a4 a5 l hl m (j + 1) k _ (by omega) (by omega), List.drop_eq_getElem_cons hj]
    rfl
theorem word_f (a0 a1 a2 a3 a4 a5 x : Int) (l : List Int) (hl : l.length ≤ 1000000000) (k : Nat) (hk : l.length + 25 ≤ k) : Qf.spec_word.f k a0 a1 a2 a3 a4 a5 x l = some (Hs.wordF (Hs.mixF x l) a2) := by
  have := word_l0 a0 a1 a2 a3 a4 a5 l hl l.length 0 k x (by omega) hk
  exact this

theorem hc_l0 (l1 l2 : List Int) (h1 : l1.length ≤ 100000000) (h2 : l2.length ≤ 100000000) : ∀ (j : Nat) (acc : List Int) (k : Nat), j ≤ 8 → j < k → acc.length ≤ 100 - j → Qf.spec_HashChildren.l0 k l1 l2 acc (8 * (j : Int) - 8) = some (acc ++ (List.range j).map (Hs.wb (l1.length : Int) j) ++ l1 ++ l2)
  | 0, acc, k + 1, _, _, ha => by
    rw [Qf.spec_HashChildren.l0, if_neg (by omega), if_pos (by omega), Option.bind_some, if_pos (by rw [List.length_append]; omega)]
    simp
  | j + 1, acc, k + 1, h8, hk, ha => by
    have hw : IntKind.u64.wrap (l1.length : Int) = l1.length := by
      show ((l1.length : Int)) % 18446744073709551616 = l1.length
      omega
    rw [Qf.spec_HashChildren.l0, if_pos (by omega), if_pos (by omega), Option.bind_some, if_pos (by simp only [List.length_cons, List.length_nil]; omega), w64p _ (by omega), hw, show (8 * ((j + 1 : Nat) : Int) - 8 - 8) = 8 * (j : Int) - 8 by omega, hc_l0 l1 l2 h1 h2 j _ k (by omega) (by omega) (by simp; omega)]
    rw [List.range_succ_eq_map, List.map_cons, List.map_map, List.append_assoc acc, List.singleton_append]
    congr 5
    · unfold Hs.wb
      have e : (8 * ((j + 1 : Nat) : Int) - 8) = ((8 * j : Nat) : Int) := by omega
      rw [e]
      show (l1.length : Int) / 2 ^ min ((8 * j : Nat) : Int).toNat 64 % 256 = _
      rw [Int.toNat_natCast, Nat.min_eq_left (by omega), show j + 1 - 1 - 0 = j by omega]
    · apply List.map_congr_left
      intro i hi
      have := List.mem_range.1 hi
      show Hs.wb _ j i = Hs.wb _ (j + 1) (i + 1)
      unfold Hs.wb
      rw [show j + 1 - 1 - (i + 1) = j - 1 - i by omega]
theorem specHC (a0 a1 a2 a3 a4 a5 : Int) (l1 l2 : List Int) (h1 : l1.length ≤ 100000000) (h2 : l2.length ≤ 100000000) (k : Nat) (hk : l1.length + l2.length + 40 ≤ k) : Qf.spec_HashChildren.f k a0 a1 a2 a3 a4 a5 l1 l2 = some (hcF a0 a2 a5 l1 l2) := by
  unfold Qf.spec_HashChildren.f hcF Qf.spec_Terms.f
  rw [Option.bind_some]
  by_cases h : a0 = 1
  · rw [if_neg (by simp [h]), if_pos h, Option.bind_some, if_pos (by simp; omega), Option.bind_some, Option.bind_some, if_pos (by simp; omega), Option.bind_some, if_pos (by simp; omega), List.nil_append, word_f a0 a1 a2 a3 a4 a5 a5 (l1 ++ [255] ++ l2) (by simp; omega) k (by simp; omega), Option.bind_some]
  · rw [if_pos (by simpa using h), if_neg h]
    have := hc_l0 l1 l2 h1 h2 8 [1] k (by omega) (by omega) (by simp)
    refine this.trans ?_
    unfold Hs.wordF Hs.wn
    rfl
end Go.Proofs.YtfhcpniibiobgaaDoor.Pure
namespace Go.Proofs.YtfhcpniibiobgaaDoor.Pure
open Go.RowKit Go.Proofs.YtfhcpniibiobgaaDoorW.PrintWords Go.Proofs.YtfhcpniibiobgaaDoorW.PrintMore Go.Proofs.YtfhcpniibiobgaaDoorW.PrintLast

/-- Bit i of an index. -/
abbrev bitI (ix : Int) (i : Nat) : Int := Go.bits .and .u64 (ix / 2 ^ min i 64) 1
def chI (a0 a2 a5 ix : Int) : List (List Int) → List Int → Nat → List Int
  | [], s, _ => s
  | h :: t, s, i => chI a0 a2 a5 ix t (if bitI ix i = 0 then hcF a0 a2 a5 s h else hcF a0 a2 a5 h s) (i + 1)
def chB (a0 a2 a5 : Int) : List (List Int) → List Int → List Int
  | [], s => s
  | h :: t, s => chB a0 a2 a5 t (hcF a0 a2 a5 h s)
theorem chI_len (a0 a2 a5 ix : Int) : ∀ (l : List (List Int)) (s : List Int) (i : Nat), (∀ h ∈ l, h.length ≤ 5000) → (chI a0 a2 a5 ix l s i).length ≤ s.length + 5009 * l.length
  | [], s, i, _ => by simp [chI]
  | h :: t, s, i, hl => by
    have h1 := hl h (by simp)
    have e1 := hcF_len a0 a2 a5 s h
    have e2 := hcF_len a0 a2 a5 h s
    rw [chI, List.length_cons]
    split
    · have := chI_len a0 a2 a5 ix t (hcF a0 a2 a5 s h) (i + 1) (fun x hx => hl x (by simp [hx]))
      omega
    · have := chI_len a0 a2 a5 ix t (hcF a0 a2 a5 h s) (i + 1) (fun x hx => hl x (by simp [hx]))
      omega
theorem chB_len (a0 a2 a5 : Int) : ∀ (l : List (List Int)) (s : List Int), (∀ h ∈ l, h.length ≤ 5000) → (chB a0 a2 a5 l s).length ≤ s.length + 5009 * l.length
  | [], s, _ => by simp [chB]
  | h :: t, s, hl => by
    have h1 := hl h (by simp)
    have e2 := hcF_len a0 a2 a5 h s
    rw [chB, List.length_cons]
    have := chB_len a0 a2 a5 t (hcF a0 a2 a5 h s) (fun x hx => hl x (by simp [hx]))
    omega
theorem toyI (a0 a1 a2 a3 a4 a5 ix : Int) : ∀ (l : List (List Int)) (s : List Int) (i : Nat), (∀ h ∈ l, h.length ≤ 5000) → s.length + 5009 * l.length ≤ 100000000 → Qf.chainI a0 a1 a2 a3 a4 a5 ix l s i = some (chI a0 a2 a5 ix l s i)
  | [], s, i, _, _ => rfl
  | h :: t, s, i, hl, hs => by
    have h1 := hl h (by simp)
    rw [List.length_cons] at hs
    have e1 := hcF_len a0 a2 a5 s h
    have e2 := hcF_len a0 a2 a5 h s
    rw [Qf.chainI, chI, toyHC a0 a1 a2 a3 a4 a5 s h (by omega) (by omega), toyHC a0 a1 a2 a3 a4 a5 h s (by omega) (by omega)]
    by_cases hb : bitI ix i = 0
    · rw [if_pos hb, if_pos hb, Option.bind_some]
      exact toyI a0 a1 a2 a3 a4 a5 ix t _ (i + 1) (fun x hx => hl x (by simp [hx])) (by omega)
    · rw [if_neg hb, if_neg hb, Option.bind_some]
      exact toyI a0 a1 a2 a3 a4 a5 ix t _ (i + 1) (fun x hx => hl x (by simp [hx])) (by omega)
theorem toyB (a0 a1 a2 a3 a4 a5 : Int) : ∀ (l : List (List Int)) (s : List Int), (∀ h ∈ l, h.length ≤ 5000) → s.length + 5009 * l.length ≤ 100000000 → Qf.chainB a0 a1 a2 a3 a4 a5 l s = some (chB a0 a2 a5 l s)
  | [], s, _, _ => rfl
  | h :: t, s, hl, hs => by
    have h1 := hl h (by simp)
    rw [List.length_cons] at hs
    have e2 := hcF_len a0 a2 a5 h s
    rw [Qf.chainB, chB, toyHC a0 a1 a2 a3 a4 a5 h s (by omega) (by omega), Option.bind_some]
    exact toyB a0 a1 a2 a3 a4 a5 t _ (fun x hx => hl x (by simp [hx])) (by omega)

end Go.Proofs.YtfhcpniibiobgaaDoor.Pure
namespace Go.Proofs.YtfhcpniibiobgaaDoor.Pure
open Go.RowKit Go.Proofs.YtfhcpniibiobgaaDoorW.PrintWords Go.Proofs.YtfhcpniibiobgaaDoorW.PrintMore Go.Proofs.YtfhcpniibiobgaaDoorW.PrintLast

theorem row_at (L : List (List Int)) (j : Nat) (hj : j < L.length) : Qf.rd_L1 L (j : Int) = L[j] := by
  show L.getD (j : Int).toNat [] = L[j]
  rw [Int.toNat_natCast, List.getD_eq_getElem?_getD, List.getElem?_eq_getElem hj]
  rfl
theorem zz_go (L : List (List Int)) (hL : L.length ≤ 2147483647) : ∀ (m j k : Nat), j + m = L.length → m < k → ∃ b, Qf.laws_zzFits2.l0 k L (L.length : Int) (j : Int) = some b
  | 0, j, k + 1, h, _ => by
    rw [Qf.laws_zzFits2.l0, if_neg (by omega)]
    exact ⟨_, rfl⟩
  | m + 1, j, k + 1, h, hk => by
    rw [Qf.laws_zzFits2.l0, if_pos (by omega), if_pos (by omega), if_pos (by omega)]
    split
    · exact ⟨_, rfl⟩
    · rw [w64p _ (by omega), show ((j : Int) + 1) = ((j + 1 : Nat) : Int) by omega]
      exact zz_go L hL m (j + 1) k (by omega) (by omega)
theorem zz_f (L : List (List Int)) (k : Nat) (hk : 2147483648 ≤ k) : ∃ b, Qf.laws_zzFits2.f k L = some b ∧ (b = true → L.length ≤ 2147483647) := by
  unfold Qf.laws_zzFits2.f
  by_cases h : (L.length : Int) > 2147483647
  · rw [if_pos h]
    exact ⟨_, rfl, fun h => by cases h⟩
  · rw [if_neg h]
    obtain ⟨b, hb⟩ := zz_go L (by omega) L.length 0 k (by omega) (by omega)
    exact ⟨b, hb, fun _ => by omega⟩
theorem small_go (L : List (List Int)) (hL : L.length ≤ 2147483647) : ∀ (m j k : Nat), j + m = L.length → m < k → ∃ b, Qf.laws_logSmall.l0 k L L (L.length : Int) (j : Int) = some b ∧ (b = true → L.length ≤ 300 ∧ ∀ h ∈ L.drop j, h.length ≤ 5000)
  | 0, j, k + 1, h, _ => by
    rw [Qf.laws_logSmall.l0, if_neg (by omega)]
    refine ⟨_, rfl, fun hb => ⟨by have := of_decide_eq_true hb; omega, fun x hx => ?_⟩⟩
    rw [List.drop_eq_nil_of_le (by omega)] at hx
    cases hx
  | m + 1, j, k + 1, h, hk => by
    have hj : j < L.length := by omega
    rw [Qf.laws_logSmall.l0, if_pos (by omega), if_pos (by omega), if_pos (by omega), row_at L j hj]
    by_cases hb : (L[j].length : Int) > 5000
    · rw [if_pos hb]
      exact ⟨_, rfl, fun h => by cases h⟩
    · rw [if_neg hb, w64p _ (by omega), show ((j : Int) + 1) = ((j + 1 : Nat) : Int) by omega]
      obtain ⟨b, e, hbt⟩ := small_go L hL m (j + 1) k (by omega) (by omega)
      refine ⟨b, e, fun ht => ⟨(hbt ht).1, fun x hx => ?_⟩⟩
      rw [List.drop_eq_getElem_cons hj] at hx
      rcases List.mem_cons.1 hx with rfl | hx
      · omega
      · exact (hbt ht).2 x hx
theorem small_f (L : List (List Int)) (hL : L.length ≤ 2147483647) (k : Nat) (hk : 2147483648 ≤ k) : ∃ b, Qf.laws_logSmall.f k L = some b ∧ (b = true → L.length ≤ 300 ∧ ∀ h ∈ L, h.length ≤ 5000) := by
  obtain ⟨b, e, h⟩ := small_go L hL L.length 0 k (by omega) (by omega)
  exact ⟨b, e, fun hb => by simpa using h hb⟩

theorem bitI_nat (x i : Nat) (hx : x < 18446744073709551616) : bitI (x : Int) i = ((x / 2 ^ min i 64 % 2 : Nat) : Int) := by
  have h1 : x / 2 ^ min i 64 ≤ x := Nat.div_le_self _ _
  show Go.bits .and .u64 ((x : Int) / 2 ^ min i 64) 1 = _
  rw [show ((x : Int) / 2 ^ min i 64) = ((x / 2 ^ min i 64 : Nat) : Int) by push_cast; rfl, show (1 : Int) = ((1 : Nat) : Int) from rfl, bits_and_u64_nat _ _ (by omega) (by omega), Nat.and_one_is_mod]
end Go.Proofs.YtfhcpniibiobgaaDoor.Pure
namespace Go.Proofs.YtfhcpniibiobgaaDoor.Pure
open Go.RowKit Go.Proofs.YtfhcpniibiobgaaDoorW.PrintWords Go.Proofs.YtfhcpniibiobgaaDoorW.PrintMore Go.Proofs.YtfhcpniibiobgaaDoorW.PrintLast
open Go.Proofs.YtfhcpniibiobgaaDoor.M (vlen inn vlen_left vlen_right vlen_one)

theorem wu (n : Int) (h : 0 ≤ n ∧ n < 18446744073709551616) : IntKind.u64.wrap n = n := by
  show n % 18446744073709551616 = n
  omega
theorem vlen_pow : ∀ (t i : Nat), t < 64 → i < 2 ^ t → vlen i (2 ^ t) = t
  | 0, i, _, h => by
    obtain rfl : i = 0 := by simpa using h
    exact vlen_one
  | t + 1, i, ht, h => by
    have hq : 2 ^ (t + 1) = 2 * 2 ^ t := by rw [Nat.pow_succ, Nat.mul_comm]
    have hp := Nat.two_pow_pos t
    have h64 : 2 ^ (t + 1) < 2 ^ 64 := Nat.pow_lt_pow_right (by omega) (by omega)
    by_cases hi : i < 2 ^ t
    · exact vlen_left (by omega) hi (by omega) (Nat.le_refl _) h64
    · rw [vlen_right (by omega) (by omega) h (Nat.le_refl _), show 2 ^ (t + 1) - 2 ^ t = 2 ^ t by omega, vlen_pow t (i - 2 ^ t) (by omega) (by omega)]
theorem split_go (n t : Nat) (hn : n < 18446744073709551616) (h1 : 2 ^ t < n) (h2 : n ≤ 2 ^ (t + 1)) : ∀ (d j k : Nat), j + d = t → d < k → Qf.spec_split.l0 k (n : Int) ((2 ^ j : Nat) : Int) = some ((2 ^ t : Nat) : Int)
  | 0, j, k + 1, hj, _ => by
    obtain rfl : j = t := by omega
    have hq : 2 ^ (j + 1) = 2 * 2 ^ j := by rw [Nat.pow_succ, Nat.mul_comm]
    rw [Qf.spec_split.l0, wu _ (by omega), if_neg (by omega)]
  | d + 1, j, k + 1, hj, hk => by
    have hq : 2 ^ (j + 1) = 2 * 2 ^ j := by rw [Nat.pow_succ, Nat.mul_comm]
    have hle : 2 ^ (j + 1) ≤ 2 ^ t := Nat.pow_le_pow_right (by omega) (by omega)
    rw [Qf.spec_split.l0, wu _ (by omega), if_pos (by omega), wu _ (by omega), show (((2 ^ j : Nat) : Int) * 2) = ((2 ^ (j + 1) : Nat) : Int) by omega]
    exact split_go n t hn h1 h2 d (j + 1) k (by omega) (by omega)
theorem log_at (n : Nat) (h : 2 ≤ n) (hn : n < 18446744073709551616) : ∃ t, t < 64 ∧ 2 ^ t < n ∧ n ≤ 2 ^ (t + 1) := by
  have a := Nat.log2_self_le (show n - 1 ≠ 0 by omega)
  have b := Nat.lt_log2_self (n := n - 1)
  refine ⟨Nat.log2 (n - 1), ?_, by omega, by omega⟩
  have : 2 ^ Nat.log2 (n - 1) < 2 ^ 64 := by omega
  exact (Nat.pow_lt_pow_iff_right (by omega)).1 this
end Go.Proofs.YtfhcpniibiobgaaDoor.Pure
namespace Go.Proofs.YtfhcpniibiobgaaDoor.Pure
open Go.RowKit Go.Proofs.YtfhcpniibiobgaaDoorW.PrintWords Go.Proofs.YtfhcpniibiobgaaDoorW.PrintMore Go.Proofs.YtfhcpniibiobgaaDoorW.PrintLast
open Go.Proofs.YtfhcpniibiobgaaDoor.M (vlen inn pc y1 y2 y3)
theorem wu64 {n : Int} (h0 : 0 ≤ n) (h1 : n < 18446744073709551616) : IntKind.u64.wrap n = n := wu n ⟨h0, h1⟩
theorem w64 {n : Int} (h0 : -9223372036854775808 ≤ n) (h1 : n ≤ 9223372036854775807) : wrap64 n = n := by
  unfold wrap64; omega
theorem and64 (x m : Nat) (hx : x < 18446744073709551616) (hm : m < 18446744073709551616) : Go.bits .and .u64 (x : Int) (m : Int) = ((x &&& m : Nat) : Int) := bits_and_u64_nat x m hx hm

theorem bnd_of {z u w : Nat} (h : z ≤ 1085102592571150095) (hu : z + z / 256 = u) (hw : u + u / 65536 = w) : w + w / 4294967296 < 9223372036854775808 := by omega

theorem onesCount_of (x : Nat) (hx : x < 18446744073709551616) : Qf.bits_OnesCount64.f (x : Int) = some ((pc 64 x : Nat) : Int) := by
  unfold Qf.bits_OnesCount64.f
  have d2 : (x : Int) / 2 = ((x / 2 : Nat) : Int) := by omega
  have a1 : Go.bits .and .u64 ((x : Int) / 2) 6148914691236517205 = ((x / 2 &&& 6148914691236517205 : Nat) : Int) := by
    rw [d2]; exact and64 (x / 2) 6148914691236517205 (by omega) (by omega)
  have a2 : Go.bits .and .u64 (x : Int) 6148914691236517205 = ((x &&& 6148914691236517205 : Nat) : Int) := and64 x 6148914691236517205 hx (by omega)
  have l1 : x / 2 &&& 6148914691236517205 ≤ 6148914691236517205 := Nat.and_le_right
  have l2 : x &&& 6148914691236517205 ≤ 6148914691236517205 := Nat.and_le_right
  have s1 : IntKind.u64.wrap (Go.bits .and .u64 ((x : Int) / 2) 6148914691236517205 + Go.bits .and .u64 (x : Int) 6148914691236517205) = ((y1 6148914691236517205 x : Nat) : Int) := by
    rw [a1, a2, wu64 (by omega) (by omega)]
    unfold y1
    push_cast; rfl
  rw [s1]
  have k1 : y1 6148914691236517205 x < 18446744073709551616 := by unfold y1; omega
  obtain ⟨y, hy⟩ : ∃ y, y1 6148914691236517205 x = y := ⟨_, rfl⟩
  rw [hy] at k1 ⊢
  have d4 : (y : Int) / 4 = ((y / 4 : Nat) : Int) := by omega
  have a3 : Go.bits .and .u64 ((y : Int) / 4) 3689348814741910323 = ((y / 4 &&& 3689348814741910323 : Nat) : Int) := by
    rw [d4]; exact and64 (y / 4) 3689348814741910323 (by omega) (by omega)
  have a4 : Go.bits .and .u64 (y : Int) 3689348814741910323 = ((y &&& 3689348814741910323 : Nat) : Int) := and64 y 3689348814741910323 k1 (by omega)
  have l3 : y / 4 &&& 3689348814741910323 ≤ 3689348814741910323 := Nat.and_le_right
  have l4 : y &&& 3689348814741910323 ≤ 3689348814741910323 := Nat.and_le_right
  have s2 : IntKind.u64.wrap (Go.bits .and .u64 ((y : Int) / 4) 3689348814741910323 + Go.bits .and .u64 (y : Int) 3689348814741910323) = ((y2 3689348814741910323 y : Nat) : Int) := by
    rw [a3, a4, wu64 (by omega) (by omega)]
    unfold y2
    push_cast; rfl
  rw [s2]
  have k2 : y2 3689348814741910323 y ≤ 7378697629483820646 := by unfold y2; omega
  obtain ⟨v, hv⟩ : ∃ v, y2 3689348814741910323 y = v := ⟨_, rfl⟩
  rw [hv] at k2 ⊢
  have s3 : Go.bits .and .u64 (IntKind.u64.wrap ((v : Int) / 16 + (v : Int))) 1085102592571150095 = ((y3 1085102592571150095 v : Nat) : Int) := by
    rw [wu64 (by omega) (by omega), show (v : Int) / 16 + (v : Int) = ((v / 16 + v : Nat) : Int) by omega]
    exact and64 (v / 16 + v) 1085102592571150095 (by omega) (by omega)
  rw [s3]
  have k3 : y3 1085102592571150095 v ≤ 1085102592571150095 := Nat.and_le_right
  obtain ⟨z, hz⟩ : ∃ z, y3 1085102592571150095 v = z := ⟨_, rfl⟩
  rw [hz] at k3 ⊢
  have s4 : IntKind.u64.wrap ((z : Int) + (z : Int) / 256) = ((z + z / 256 : Nat) : Int) := by rw [wu64 (by omega) (by omega)]; omega
  rw [s4]
  obtain ⟨u, hu⟩ : ∃ u, z + z / 256 = u := ⟨_, rfl⟩
  rw [hu]
  have s5 : IntKind.u64.wrap ((u : Int) + (u : Int) / 65536) = ((u + u / 65536 : Nat) : Int) := by rw [wu64 (by omega) (by omega)]; omega
  rw [s5]
  obtain ⟨w, hw⟩ : ∃ w, u + u / 65536 = w := ⟨_, rfl⟩
  rw [hw]
  have s6 : wrap64 (IntKind.u64.wrap ((w : Int) + (w : Int) / 4294967296)) = ((w + w / 4294967296 : Nat) : Int) := by rw [wu64 (by omega) (by omega), w64 (by omega) (by omega)]; omega
  rw [s6]
  have hbnd : w + w / 4294967296 < 9223372036854775808 := bnd_of k3 hu hw
  have hs := M.swar x z u w hx (by rw [← hz, ← hv, ← hy]) hu.symm hw.symm
  have n63 : (2 : Nat) ^ 63 = 9223372036854775808 := by decide
  have hb := (bits_nat .i64 63 (by decide) (fun n h0 h1 => by
    have h63 : (2 : Int) ^ 63 = 9223372036854775808 := by decide
    rw [h63] at h1
    rw [IntKind.wrap_i64]; omega) (w + w / 4294967296) 127 (by rw [n63]; exact hbnd) (by rw [n63]; decide)).1
  have hmod : (w + w / 4294967296) &&& 127 = (w + w / 4294967296) % 128 := Nat.and_two_pow_sub_one_eq_mod _ 7
  rw [hmod, hs] at hb
  exact congrArg some hb

/-- The leaves of a node. -/
theorem pc_le : ∀ (f x : Nat), pc f x ≤ f
  | 0, _ => Nat.le_refl _
  | f + 1, x => by
    rw [M.pc]
    have := pc_le f (x / 2)
    omega
theorem xor_lt (x y : Nat) (hx : x < 18446744073709551616) (hy : y < 18446744073709551616) : x ^^^ y < 18446744073709551616 := Nat.xor_lt_two_pow (n := 64) hx hy
theorem inn_le (x n : Nat) (hx : x < n) (hn : n < 18446744073709551616) : inn x n ≤ 64 := by
  unfold inn
  by_cases h : x ^^^ (n - 1) = 0
  · rw [h]
    exact Nat.zero_le _
  · exact (M.len_spec _ h (xor_lt x (n - 1) (by omega) (by omega))).2.1
theorem inn_lt (x n : Nat) (hx : x < n) (hn : n < 18446744073709551616) : x ^^^ (n - 1) < 2 ^ inn x n := by
  unfold inn
  by_cases h : x ^^^ (n - 1) = 0
  · rw [h]
    exact Nat.two_pow_pos _
  · exact (M.len_spec _ h (xor_lt x (n - 1) (by omega) (by omega))).2.2.2
theorem inn_gt (x n j : Nat) (hx : x < n) (hn : n < 18446744073709551616) (hj : j < inn x n) : 2 ^ j ≤ x ^^^ (n - 1) := by
  unfold inn at hj
  have h : x ^^^ (n - 1) ≠ 0 := by
    intro h
    rw [h] at hj
    exact absurd hj (by simp [Lib.bitLen, Lib.bitLenAux])
  have := (M.len_spec _ h (xor_lt x (n - 1) (by omega) (by omega))).2.2.1
  exact Nat.le_trans (Nat.pow_le_pow_right (by omega) (by omega)) this
theorem xor_eq (x y : Nat) (h : x ^^^ y = 0) : x = y := by
  have : (x ^^^ y) ^^^ y = 0 ^^^ y := by rw [h]
  rwa [Nat.xor_assoc, Nat.xor_self, Nat.xor_zero, Nat.zero_xor] at this
theorem same_hi (x y j : Nat) : x / 2 ^ j = y / 2 ^ j ↔ x ^^^ y < 2 ^ j := by
  have e : (x ^^^ y) / 2 ^ j = (x / 2 ^ j) ^^^ (y / 2 ^ j) := Nat.xor_div_two_pow
  constructor
  · intro h
    rw [h, Nat.xor_self] at e
    exact (Nat.div_eq_zero_iff_lt (Nat.two_pow_pos j)).1 e
  · intro h
    rw [Nat.div_eq_of_lt h] at e
    exact xor_eq _ _ e.symm
theorem decomp_f (x n : Nat) (hx : x < n) (hn : n < 18446744073709551616) : Qf.proof_decompInclProof.f (x : Int) (n : Int) = some (((inn x n : Nat) : Int), ((pc 64 (x / 2 ^ inn x n) : Nat) : Int)) := by
  have h64 := inn_le x n hx hn
  have w : IntKind.u64.wrap ((n : Int) - 1) = ((n - 1 : Nat) : Int) := by rw [wu _ (by omega)]; omega
  have hxl := xor_lt x (n - 1) (by omega) (by omega)
  have hi : Qf.proof_innerProofSize.f (x : Int) (n : Int) = some ((inn x n : Nat) : Int) := by
    unfold Qf.proof_innerProofSize.f Qf.bits_Len64.f
    rw [w, bits_xor_u64_nat x (n - 1) (by omega) (by omega), if_pos (by omega), if_pos (by omega), Option.bind_some, Int.toNat_natCast]
    rfl
  unfold Qf.proof_decompInclProof.f
  rw [hi, Option.bind_some, wu _ (by omega), if_pos (by omega)]
  have sh : shr .u64 (x : Int) ((inn x n : Nat) : Int) = ((x / 2 ^ inn x n : Nat) : Int) := by
    show (x : Int) / 2 ^ min ((inn x n : Nat) : Int).toNat 64 = _
    rw [Int.toNat_natCast, Nat.min_eq_left h64]
    push_cast
    rfl
  rw [sh, onesCount_of _ (Nat.lt_of_le_of_lt (Nat.div_le_self _ _) (by omega)), Option.bind_some]
end Go.Proofs.YtfhcpniibiobgaaDoor.Pure
namespace Go.Proofs.YtfhcpniibiobgaaDoor.Pure
open Go.RowKit Go.Proofs.YtfhcpniibiobgaaDoorW.PrintWords Go.Proofs.YtfhcpniibiobgaaDoorW.PrintMore Go.Proofs.YtfhcpniibiobgaaDoorW.PrintLast
open Go.Proofs.YtfhcpniibiobgaaDoor.M (vlen inn pc vlen_left vlen_right vlen_one bitLen_at div_one)

/-- The root that a path leads to, from the top. -/
def rootF (a0 a2 a5 : Int) (x : Nat) : Nat → Nat → Nat → List Int → List (List Int) → List Int
  | 0, _, _, leaf, _ => leaf
  | T + 1, b, e, leaf, path =>
    if e - b = 1 then leaf else
    if x < b + 2 ^ Nat.log2 (e - b - 1) then hcF a0 a2 a5 (rootF a0 a2 a5 x T b (b + 2 ^ Nat.log2 (e - b - 1)) leaf (path.take (path.length - 1))) (path.getD (path.length - 1) [])
    else hcF a0 a2 a5 (path.getD (path.length - 1) []) (rootF a0 a2 a5 x T (b + 2 ^ Nat.log2 (e - b - 1)) e leaf (path.take (path.length - 1)))
theorem rootF_len (a0 a2 a5 : Int) (x : Nat) : ∀ (T b e : Nat) (leaf : List Int) (path : List (List Int)), (∀ h ∈ path, h.length ≤ 5000) → (rootF a0 a2 a5 x T b e leaf path).length ≤ leaf.length + 5009 * T
  | 0, _, _, leaf, _, _ => by simp [rootF]
  | T + 1, b, e, leaf, path, hp => by
    have hg : (path.getD (path.length - 1) []).length ≤ 5000 := by
      rw [List.getD_eq_getElem?_getD]
      rcases h : path[path.length - 1]? with _ | y
      · simp
      · exact hp y (List.mem_of_getElem? h)
    have ht : ∀ h ∈ path.take (path.length - 1), h.length ≤ 5000 := fun h hh => hp h (List.mem_of_mem_take hh)
    rw [rootF]
    split
    · omega
    · split
      · have := rootF_len a0 a2 a5 x T b (b + 2 ^ Nat.log2 (e - b - 1)) leaf (path.take (path.length - 1)) ht
        have := hcF_len a0 a2 a5 (rootF a0 a2 a5 x T b (b + 2 ^ Nat.log2 (e - b - 1)) leaf (path.take (path.length - 1))) (path.getD (path.length - 1) [])
        omega
      · have := rootF_len a0 a2 a5 x T (b + 2 ^ Nat.log2 (e - b - 1)) e leaf (path.take (path.length - 1)) ht
        have := hcF_len a0 a2 a5 (path.getD (path.length - 1) []) (rootF a0 a2 a5 x T (b + 2 ^ Nat.log2 (e - b - 1)) e leaf (path.take (path.length - 1)))
        omega

theorem chI_append (a0 a2 a5 ix : Int) : ∀ (l m : List (List Int)) (s : List Int) (i : Nat), chI a0 a2 a5 ix (l ++ m) s i = chI a0 a2 a5 ix m (chI a0 a2 a5 ix l s i) (i + l.length)
  | [], m, s, i => rfl
  | h :: t, m, s, i => by
    rw [List.cons_append, chI, chI, chI_append a0 a2 a5 ix t m, List.length_cons, show i + 1 + t.length = i + (t.length + 1) by omega]
theorem chB_append (a0 a2 a5 : Int) : ∀ (l m : List (List Int)) (s : List Int), chB a0 a2 a5 (l ++ m) s = chB a0 a2 a5 m (chB a0 a2 a5 l s)
  | [], m, s => rfl
  | h :: t, m, s => by rw [List.cons_append, chB, chB, chB_append a0 a2 a5 t m]
theorem chI_ones (a0 a2 a5 ix : Int) : ∀ (l : List (List Int)) (s : List Int) (i : Nat), (∀ j, i ≤ j → j < i + l.length → bitI ix j ≠ 0) → chI a0 a2 a5 ix l s i = chB a0 a2 a5 l s
  | [], s, i, _ => rfl
  | h :: t, s, i, hb => by
    rw [List.length_cons] at hb
    rw [chI, chB, if_neg (hb i (Nat.le_refl _) (by omega)), chI_ones a0 a2 a5 ix t _ (i + 1) (fun j h1 h2 => hb j (by omega) (by omega))]
theorem snoc_of (path : List (List Int)) (n : Nat) (h : path.length = n + 1) : path = path.take n ++ [path.getD n []] ∧ (path.take n).length = n := by
  refine ⟨?_, by rw [List.length_take]; omega⟩
  rw [List.getD_eq_getElem?_getD, List.getElem?_eq_getElem (by omega), Option.getD_some, ← List.take_succ_eq_append_getElem (by omega), List.take_of_length_le (by omega)]
theorem pow_add_mul (t u : Nat) (h : t ≤ u) : 2 ^ u = 2 ^ (u - t) * 2 ^ t := by rw [← Nat.pow_add]; congr 1; omega
theorem bit_sub (x c T i : Nat) (h : i < T) (hc : c * 2 ^ T ≤ x) : (x - c * 2 ^ T) / 2 ^ i % 2 = x / 2 ^ i % 2 := by
  have e : c * 2 ^ T = (c * 2 ^ (T - i - 1)) * 2 * 2 ^ i := by
    rw [Nat.mul_assoc, Nat.mul_assoc, ← Nat.pow_succ', ← Nat.pow_add]
    congr 2
    omega
  have hx : x = (x - c * 2 ^ T) + (c * 2 ^ (T - i - 1)) * 2 * 2 ^ i := by omega
  conv => rhs; rw [hx]
  rw [Nat.add_mul_div_right _ _ (Nat.two_pow_pos i)]
  omega
/-- Above the inner part of a perfect tree all bits are ones. -/
theorem ones_above (i t : Nat) (ht : t < 64) (hi : i < 2 ^ t) (j : Nat) (h1 : inn i (2 ^ t) ≤ j) (h2 : j < t) : i / 2 ^ j % 2 = 1 := by
  have h64 : 2 ^ t < 2 ^ 64 := Nat.pow_lt_pow_right (by omega) ht
  have hl := inn_lt i (2 ^ t) hi (by omega)
  have hle : 2 ^ inn i (2 ^ t) ≤ 2 ^ j := Nat.pow_le_pow_right (by omega) h1
  have e := (same_hi i (2 ^ t - 1) j).2 (by omega)
  have e2 : (2 ^ t - 1) / 2 ^ j = 2 ^ (t - j) - 1 := by
    have hs := pow_add_mul j t (by omega)
    have hp := Nat.two_pow_pos j
    have hq := Nat.two_pow_pos (t - j)
    rw [Nat.div_eq_iff hp, hs]
    have : (2 ^ (t - j) - 1) * 2 ^ j = 2 ^ (t - j) * 2 ^ j - 2 ^ j := by rw [Nat.sub_mul, Nat.one_mul]
    have : 2 ^ j ≤ 2 ^ (t - j) * 2 ^ j := Nat.le_mul_of_pos_left _ hq
    omega
  have e3 : 2 ^ (t - j) = 2 * 2 ^ (t - j - 1) := by rw [← Nat.pow_succ']; congr 1; omega
  have := Nat.two_pow_pos (t - j - 1)
  rw [e, e2, e3]
  omega
theorem inn_left {i n t : Nat} (ht : t < 64) (hi : i < 2 ^ t) (h1 : 2 ^ t < n) (h2 : n ≤ 2 ^ (t + 1)) (hn : n < 2 ^ 64) : inn i n = t + 1 := by
  have hx : (i ^^^ (n - 1)) / 2 ^ t = 1 := by
    rw [Nat.xor_div_two_pow, Nat.div_eq_of_lt hi, Nat.zero_xor]
    exact div_one (by omega) (by omega)
  have hp := Nat.two_pow_pos t
  have hq : 2 ^ (t + 1) = 2 * 2 ^ t := by rw [Nat.pow_succ, Nat.mul_comm]
  have hz := Nat.div_add_mod (i ^^^ (n - 1)) (2 ^ t)
  rw [hx, Nat.mul_one] at hz
  have hm := Nat.mod_lt (i ^^^ (n - 1)) hp
  have h64 : 2 ^ (t + 1) ≤ 2 ^ 64 := Nat.pow_le_pow_right (by omega) (by omega)
  exact bitLen_at (by omega) (by omega) (by omega)
theorem inn_right {i n t : Nat} (hi : 2 ^ t ≤ i) (hin : i < n) (h2 : n ≤ 2 ^ (t + 1)) : inn i n = inn (i - 2 ^ t) (n - 2 ^ t) := by
  have hp := Nat.two_pow_pos t
  have hq : 2 ^ (t + 1) = 2 * 2 ^ t := by rw [Nat.pow_succ, Nat.mul_comm]
  have e1 : i / 2 ^ t = 1 := div_one hi (by omega)
  have e2 : (n - 1) / 2 ^ t = 1 := div_one (by omega) (by omega)
  have m1 : i % 2 ^ t = i - 2 ^ t := by have := Nat.div_add_mod i (2 ^ t); rw [e1] at this; omega
  have m2 : (n - 1) % 2 ^ t = n - 2 ^ t - 1 := by have := Nat.div_add_mod (n - 1) (2 ^ t); rw [e2] at this; omega
  unfold inn
  congr 1
  have a := Nat.div_add_mod (i ^^^ (n - 1)) (2 ^ t)
  rw [Nat.xor_div_two_pow, e1, e2, Nat.xor_self, Nat.mul_zero, Nat.zero_add, Nat.xor_mod_two_pow, m1, m2] at a
  exact a.symm
theorem inn_vlen (i n : Nat) : inn i n ≤ vlen i n := Nat.le_add_right _ _

/-- The reference's root is the program's chains. -/
theorem rootF_ch (a0 a2 a5 : Int) (x : Nat) (hx64 : x < 18446744073709551616) : ∀ (T b e : Nat) (leaf : List Int) (path : List (List Int)), T ≤ 64 → b ≤ x → x < e → e < 18446744073709551616 → (∃ u c, u ≤ T ∧ b = c * 2 ^ u ∧ e - b ≤ 2 ^ u) → path.length = vlen (x - b) (e - b) →
    rootF a0 a2 a5 x T b e leaf path = chB a0 a2 a5 (path.drop (inn (x - b) (e - b))) (chI a0 a2 a5 (x : Int) (path.take (inn (x - b) (e - b))) leaf 0)
  | 0, b, e, leaf, path, hT, hb, hx, he, ⟨u, c, hu, hc, hw⟩, hpl => by
    obtain rfl : u = 0 := by omega
    have e1 : e - b = 1 := by simp at hw; omega
    rw [e1, show x - b = 0 by omega, vlen_one] at hpl
    obtain rfl : path = [] := List.length_eq_zero_iff.1 hpl
    simp [rootF, chB, chI]
  | T + 1, b, e, leaf, path, hT, hb, hx, he, ⟨u, c, hu, hc, hw⟩, hpl => by
    rw [rootF]
    by_cases h1 : e - b = 1
    · rw [if_pos h1]
      rw [h1, show x - b = 0 by omega, vlen_one] at hpl
      obtain rfl : path = [] := List.length_eq_zero_iff.1 hpl
      simp [chB, chI]
    · rw [if_neg h1]
      have n0 : e - b - 1 ≠ 0 := by omega
      have g1 : 2 ^ Nat.log2 (e - b - 1) < e - b := by
        have := Nat.log2_self_le n0
        omega
      have g2 : e - b ≤ 2 ^ (Nat.log2 (e - b - 1) + 1) := by
        have := Nat.lt_log2_self (n := e - b - 1)
        omega
      generalize Nat.log2 (e - b - 1) = t at g1 g2 ⊢
      have htu : t < u := (Nat.pow_lt_pow_iff_right (by omega : 1 < 2)).1 (Nat.lt_of_lt_of_le g1 hw)
      have hp := Nat.two_pow_pos t
      have hq : 2 ^ (t + 1) = 2 * 2 ^ t := by rw [Nat.pow_succ, Nat.mul_comm]
      have hcT : b = (c * 2 ^ (u - t)) * 2 ^ t := by rw [hc, Nat.mul_assoc, ← pow_add_mul t u (by omega)]
      have bits : ∀ i, i < t + 1 → bitI (x : Int) i = (((x - b) / 2 ^ i % 2 : Nat) : Int) := fun i hi => by
        rw [bitI_nat x i hx64, Nat.min_eq_left (by omega), hc, bit_sub x c u i (by omega) (hc ▸ hb)]
      by_cases hlt : x < b + 2 ^ t
      · rw [if_pos hlt]
        have hvl : vlen (x - b) (e - b) = t + 1 := vlen_left (by omega) (by omega) g1 g2 (by omega)
        have hin : inn (x - b) (e - b) = t + 1 := inn_left (by omega) (by omega) g1 g2 (by omega)
        obtain ⟨hs, hsl⟩ := snoc_of path t (by omega)
        have ih := rootF_ch a0 a2 a5 x hx64 T b (b + 2 ^ t) leaf (path.take t) (by omega) hb hlt (by omega) ⟨t, _, by omega, hcT, by omega⟩ (by rw [hsl, show b + 2 ^ t - b = 2 ^ t by omega, vlen_pow t (x - b) (by omega) (by omega)])
        rw [show b + 2 ^ t - b = 2 ^ t by omega] at ih
        rw [show path.length - 1 = t by omega, ih, hin, List.drop_eq_nil_of_le (show path.length ≤ t + 1 by omega), List.take_of_length_le (show path.length ≤ t + 1 by omega), chB]
        have hm : inn (x - b) (2 ^ t) ≤ t := by
          have := inn_vlen (x - b) (2 ^ t)
          rw [vlen_pow t (x - b) (by omega) (by omega)] at this
          exact this
        have e1 : chI a0 a2 a5 (x : Int) (path.take t) leaf 0 = chB a0 a2 a5 ((path.take t).drop (inn (x - b) (2 ^ t))) (chI a0 a2 a5 (x : Int) ((path.take t).take (inn (x - b) (2 ^ t))) leaf 0) := by
          conv => lhs; rw [← List.take_append_drop (inn (x - b) (2 ^ t)) (path.take t)]
          rw [chI_append, chI_ones]
          intro j h1 h2
          rw [List.length_take, List.length_drop] at h2
          rw [List.length_take] at h1
          rw [bits j (by omega), ones_above (x - b) t (by omega) (by omega) j (by omega) (by omega)]
          decide
        rw [← e1]
        conv => rhs; rw [hs]
        rw [chI_append, chI, chI, hsl, if_pos (by rw [bits _ (by omega), Nat.zero_add, Nat.div_eq_of_lt (by omega)]; rfl)]
      · rw [if_neg hlt]
        have hvl : vlen (x - b) (e - b) = vlen (x - b - 2 ^ t) (e - b - 2 ^ t) + 1 := vlen_right (by omega) (by omega) (by omega) g2
        have hin : inn (x - b) (e - b) = inn (x - b - 2 ^ t) (e - b - 2 ^ t) := inn_right (by omega) (by omega) g2
        obtain ⟨hs, hsl⟩ := snoc_of path _ (hpl.trans hvl)
        have ih := rootF_ch a0 a2 a5 x hx64 T (b + 2 ^ t) e leaf (path.take (path.length - 1)) (by omega) (by omega) hx he ⟨t, c * 2 ^ (u - t) + 1, by omega, by rw [Nat.add_mul, Nat.one_mul, ← hcT], by omega⟩ (by rw [List.length_take, hpl, hvl, show x - (b + 2 ^ t) = x - b - 2 ^ t by omega, show e - (b + 2 ^ t) = e - b - 2 ^ t by omega]; omega)
        rw [show x - (b + 2 ^ t) = x - b - 2 ^ t by omega, show e - (b + 2 ^ t) = e - b - 2 ^ t by omega] at ih
        rw [ih, hin, hpl, hvl, Nat.add_sub_cancel]
        have hm := inn_vlen (x - b - 2 ^ t) (e - b - 2 ^ t)
        generalize inn (x - b - 2 ^ t) (e - b - 2 ^ t) = m at hm
        generalize vlen (x - b - 2 ^ t) (e - b - 2 ^ t) = v at hm hs hsl
        conv => rhs; rw [hs]
        rw [List.drop_append_of_le_length (by omega), List.take_append_of_le_length (by omega), chB_append, chB, chB]

/-- With terms, two children are told from their hash. -/
theorem wordF_inj {x y : Int} (hx : 0 ≤ x ∧ x < 18446744073709551616) (hy : 0 ≤ y ∧ y < 18446744073709551616) (h : Hs.wordF x 8 = Hs.wordF y 8) : x = y := by
  have g : ∀ i, i < 8 → Hs.wb x 8 i = Hs.wb y 8 i := fun i hi => by
    have h1 : (Hs.wordF x 8)[i]? = (Hs.wordF y 8)[i]? := by rw [h]
    unfold Hs.wordF at h1
    rw [show Hs.wn 8 = 8 from rfl, List.getElem?_map, List.getElem?_map, List.getElem?_range hi] at h1
    simpa using h1
  have g0 := g 0 (by omega)
  have g1 := g 1 (by omega)
  have g2 := g 2 (by omega)
  have g3 := g 3 (by omega)
  have g4 := g 4 (by omega)
  have g5 := g 5 (by omega)
  have g6 := g 6 (by omega)
  have g7 := g 7 (by omega)
  simp only [Hs.wb] at g0 g1 g2 g3 g4 g5 g6 g7
  simp at g0 g1 g2 g3 g4 g5 g6 g7
  omega
theorem hcF_inj {a0 a2 a5 : Int} (h0 : a0 ≠ 1) {l1 l2 m1 m2 : List Int} (b1 : l1.length < 18446744073709551616) (b2 : m1.length < 18446744073709551616) (h : hcF a0 a2 a5 l1 l2 = hcF a0 a2 a5 m1 m2) : l1 = m1 ∧ l2 = m2 := by
  unfold hcF at h
  rw [if_neg h0, if_neg h0, List.append_assoc, List.append_assoc, List.append_assoc, List.append_assoc] at h
  have hl : ∀ y : Int, (Hs.wordF y 8).length = 8 := fun y => by unfold Hs.wordF; rw [List.length_map, List.length_range]; rfl
  obtain ⟨_, h⟩ := List.append_inj h rfl
  obtain ⟨hw, h⟩ := List.append_inj h (by rw [hl, hl])
  have := wordF_inj (by omega) (by omega) hw
  exact List.append_inj h (by omega)
theorem chB_inj {a0 a2 a5 : Int} (h0 : a0 ≠ 1) : ∀ (l m : List (List Int)) (s r : List Int), l.length = m.length → (∀ h ∈ l, h.length ≤ 5000) → (∀ h ∈ m, h.length ≤ 5000) → chB a0 a2 a5 l s = chB a0 a2 a5 m r → s = r ∧ l = m
  | [], [], s, r, _, _, _, h => ⟨h, rfl⟩
  | x :: l, y :: m, s, r, hl, bl, bm, h => by
    obtain ⟨e1, e2⟩ := chB_inj h0 l m _ _ (by simpa using hl) (fun z hz => bl z (by simp [hz])) (fun z hz => bm z (by simp [hz])) h
    have b1 := bl x (by simp)
    have b2 := bm y (by simp)
    obtain ⟨e3, e4⟩ := hcF_inj h0 (by omega) (by omega) e1
    exact ⟨e4, by rw [e3, e2]⟩
theorem chI_inj {a0 a2 a5 ix : Int} (h0 : a0 ≠ 1) : ∀ (l m : List (List Int)) (s r : List Int) (i : Nat), l.length = m.length → (∀ h ∈ l, h.length ≤ 5000) → (∀ h ∈ m, h.length ≤ 5000) → s.length + 5009 * l.length < 100000000 → r.length + 5009 * l.length < 100000000 → chI a0 a2 a5 ix l s i = chI a0 a2 a5 ix m r i → s = r ∧ l = m
  | [], [], s, r, i, _, _, _, _, _, h => ⟨h, rfl⟩
  | x :: l, y :: m, s, r, i, hl, bl, bm, bs, br, h => by
    have b1 := bl x (by simp)
    have b2 := bm y (by simp)
    rw [List.length_cons] at bs br
    rw [chI, chI] at h
    have hl' : l.length = m.length := by simpa using hl
    have q1 := hcF_len a0 a2 a5 s x
    have q2 := hcF_len a0 a2 a5 x s
    have q3 := hcF_len a0 a2 a5 r y
    have q4 := hcF_len a0 a2 a5 y r
    by_cases hb : bitI ix i = 0
    · rw [if_pos hb, if_pos hb] at h
      obtain ⟨e1, e2⟩ := chI_inj h0 l m _ _ (i + 1) hl' (fun z hz => bl z (by simp [hz])) (fun z hz => bm z (by simp [hz])) (by omega) (by omega) h
      obtain ⟨e3, e4⟩ := hcF_inj h0 (by omega) (by omega) e1
      exact ⟨e3, by rw [e4, e2]⟩
    · rw [if_neg hb, if_neg hb] at h
      obtain ⟨e1, e2⟩ := chI_inj h0 l m _ _ (i + 1) hl' (fun z hz => bl z (by simp [hz])) (fun z hz => bm z (by simp [hz])) (by omega) (by omega) h
      obtain ⟨e3, e4⟩ := hcF_inj h0 (by omega) (by omega) e1
      exact ⟨e4, by rw [e3, e2]⟩
end Go.Proofs.YtfhcpniibiobgaaDoor.Pure
namespace Go.Proofs.YtfhcpniibiobgaaDoor.Pure
open Go.RowKit Go.Proofs.YtfhcpniibiobgaaDoorW.PrintWords Go.Proofs.YtfhcpniibiobgaaDoorW.PrintMore Go.Proofs.YtfhcpniibiobgaaDoorW.PrintLast
open Go.Proofs.YtfhcpniibiobgaaDoor.M (vlen inn pc vlen_left vlen_right vlen_one bitLen_at div_one)

/-- Chaining with those to the left alone. -/
def chR (a0 a2 a5 ix : Int) : List (List Int) → List Int → Nat → List Int
  | [], s, _ => s
  | h :: t, s, i => chR a0 a2 a5 ix t (if bitI ix i = 1 then hcF a0 a2 a5 h s else s) (i + 1)
theorem chR_len (a0 a2 a5 ix : Int) : ∀ (l : List (List Int)) (s : List Int) (i : Nat), (∀ h ∈ l, h.length ≤ 5000) → (chR a0 a2 a5 ix l s i).length ≤ s.length + 5009 * l.length
  | [], s, i, _ => by simp [chR]
  | h :: t, s, i, hl => by
    have h1 := hl h (by simp)
    have e2 := hcF_len a0 a2 a5 h s
    rw [chR, List.length_cons]
    split
    · have := chR_len a0 a2 a5 ix t (hcF a0 a2 a5 h s) (i + 1) (fun x hx => hl x (by simp [hx]))
      omega
    · have := chR_len a0 a2 a5 ix t s (i + 1) (fun x hx => hl x (by simp [hx]))
      omega
theorem toyR (a0 a1 a2 a3 a4 a5 ix : Int) : ∀ (l : List (List Int)) (s : List Int) (i : Nat), (∀ h ∈ l, h.length ≤ 5000) → s.length + 5009 * l.length ≤ 100000000 → Qf.chainR a0 a1 a2 a3 a4 a5 ix l s i = some (chR a0 a2 a5 ix l s i)
  | [], s, i, _, _ => rfl
  | h :: t, s, i, hl, hs => by
    have h1 := hl h (by simp)
    rw [List.length_cons] at hs
    have e2 := hcF_len a0 a2 a5 h s
    rw [Qf.chainR, chR, toyHC a0 a1 a2 a3 a4 a5 h s (by omega) (by omega)]
    by_cases hb : bitI ix i = 1
    · rw [if_pos hb, if_pos hb, Option.bind_some]
      exact toyR a0 a1 a2 a3 a4 a5 ix t _ (i + 1) (fun x hx => hl x (by simp [hx])) (by omega)
    · rw [if_neg hb, if_neg hb, Option.bind_some]
      exact toyR a0 a1 a2 a3 a4 a5 ix t _ (i + 1) (fun x hx => hl x (by simp [hx])) (by omega)
theorem chR_append (a0 a2 a5 ix : Int) : ∀ (l m : List (List Int)) (s : List Int) (i : Nat), chR a0 a2 a5 ix (l ++ m) s i = chR a0 a2 a5 ix m (chR a0 a2 a5 ix l s i) (i + l.length)
  | [], m, s, i => rfl
  | h :: t, m, s, i => by
    rw [List.cons_append, chR, chR, chR_append a0 a2 a5 ix t m, List.length_cons, show i + 1 + t.length = i + (t.length + 1) by omega]
theorem chR_ones (a0 a2 a5 ix : Int) : ∀ (l : List (List Int)) (s : List Int) (i : Nat), (∀ j, i ≤ j → j < i + l.length → bitI ix j = 1) → chR a0 a2 a5 ix l s i = chB a0 a2 a5 l s
  | [], s, i, _ => rfl
  | h :: t, s, i, hb => by
    rw [List.length_cons] at hb
    rw [chR, chB, if_pos (hb i (Nat.le_refl _) (by omega)), chR_ones a0 a2 a5 ix t _ (i + 1) (fun j h1 h2 => hb j (by omega) (by omega))]

/-- The two roots, from the top; m: the size of the first log. -/
def rootsF (a0 a2 a5 : Int) (m : Nat) : Nat → Nat → Nat → Bool → List (List Int) → List Int → List Int × List Int
  | 0, _, _, wh, pf, r => if wh then (r, r) else (pf.getD 0 [], pf.getD 0 [])
  | T + 1, b, e, wh, pf, r =>
    if m = e then (if wh then (r, r) else (pf.getD 0 [], pf.getD 0 [])) else
    if m ≤ b + 2 ^ Nat.log2 (e - b - 1) then
      ((rootsF a0 a2 a5 m T b (b + 2 ^ Nat.log2 (e - b - 1)) wh (pf.take (pf.length - 1)) r).1, hcF a0 a2 a5 (rootsF a0 a2 a5 m T b (b + 2 ^ Nat.log2 (e - b - 1)) wh (pf.take (pf.length - 1)) r).2 (pf.getD (pf.length - 1) []))
    else
      (hcF a0 a2 a5 (pf.getD (pf.length - 1) []) (rootsF a0 a2 a5 m T (b + 2 ^ Nat.log2 (e - b - 1)) e false (pf.take (pf.length - 1)) r).1, hcF a0 a2 a5 (pf.getD (pf.length - 1) []) (rootsF a0 a2 a5 m T (b + 2 ^ Nat.log2 (e - b - 1)) e false (pf.take (pf.length - 1)) r).2)
theorem rootsF_len (a0 a2 a5 : Int) (m : Nat) : ∀ (T b e : Nat) (wh : Bool) (pf : List (List Int)) (r : List Int) (R : Nat), (∀ h ∈ pf, h.length ≤ 5000) → r.length ≤ R → 5000 ≤ R → (rootsF a0 a2 a5 m T b e wh pf r).1.length ≤ R + 5009 * T ∧ (rootsF a0 a2 a5 m T b e wh pf r).2.length ≤ R + 5009 * T := by
  have hg : ∀ (pf : List (List Int)) (k : Nat), (∀ h ∈ pf, h.length ≤ 5000) → (pf.getD k []).length ≤ 5000 := fun pf k hp => by
    rw [List.getD_eq_getElem?_getD]
    rcases h : pf[k]? with _ | y
    · simp
    · exact hp y (List.mem_of_getElem? h)
  intro T
  induction T with
  | zero =>
    intro b e wh pf r R hp hr hR
    have h0 := hg pf 0 hp
    rw [rootsF]
    cases wh
    · rw [if_neg (by simp)]
      exact ⟨by dsimp only; omega, by dsimp only; omega⟩
    · rw [if_pos rfl]
      exact ⟨by dsimp only; omega, by dsimp only; omega⟩
  | succ T ih =>
    intro b e wh pf r R hp hr hR
    have h0 := hg pf 0 hp
    have hl := hg pf (pf.length - 1) hp
    have ht : ∀ h ∈ pf.take (pf.length - 1), h.length ≤ 5000 := fun h hh => hp h (List.mem_of_mem_take hh)
    rw [rootsF]
    split
    · cases wh
      · rw [if_neg (by simp)]
        exact ⟨Nat.le_trans h0 (by omega), Nat.le_trans h0 (by omega)⟩
      · rw [if_pos rfl]
        exact ⟨Nat.le_trans hr (by omega), Nat.le_trans hr (by omega)⟩
    · split
      · obtain ⟨i1, i2⟩ := ih b (b + 2 ^ Nat.log2 (e - b - 1)) wh (pf.take (pf.length - 1)) r R ht hr hR
        have := hcF_len a0 a2 a5 (rootsF a0 a2 a5 m T b (b + 2 ^ Nat.log2 (e - b - 1)) wh (pf.take (pf.length - 1)) r).2 (pf.getD (pf.length - 1) [])
        exact ⟨by dsimp only; omega, by dsimp only; omega⟩
      · obtain ⟨i1, i2⟩ := ih (b + 2 ^ Nat.log2 (e - b - 1)) e false (pf.take (pf.length - 1)) r R ht hr hR
        have e1 := hcF_len a0 a2 a5 (pf.getD (pf.length - 1) []) (rootsF a0 a2 a5 m T (b + 2 ^ Nat.log2 (e - b - 1)) e false (pf.take (pf.length - 1)) r).1
        have e2 := hcF_len a0 a2 a5 (pf.getD (pf.length - 1) []) (rootsF a0 a2 a5 m T (b + 2 ^ Nat.log2 (e - b - 1)) e false (pf.take (pf.length - 1)) r).2
        exact ⟨by dsimp only; omega, by dsimp only; omega⟩

/-- What the least bit of the first size says of a part in which it does not lie at the end. -/
theorem low_lt {x sh b e u c : Nat} (hd : 2 ^ sh ∣ x + 1) (hb : b ≤ x) (hm : x + 1 < e) (hc : b = c * 2 ^ u) (hw : e - b ≤ 2 ^ u) : sh < u := by
  refine Nat.lt_of_not_le fun h => ?_
  have h1 : 2 ^ u ∣ x + 1 := Nat.dvd_trans (Nat.pow_dvd_pow 2 h) hd
  have h2 : 2 ^ u ∣ b := ⟨c, by rw [hc, Nat.mul_comm]⟩
  have h3 : 2 ^ u ∣ x + 1 - b := Nat.dvd_sub h1 h2
  have := Nat.le_of_dvd (by omega) h3
  omega
theorem low_dvd {x sh b u c : Nat} (hd : 2 ^ sh ∣ x + 1) (hc : b = c * 2 ^ u) (h : sh ≤ u) : 2 ^ sh ∣ x + 1 - b :=
  Nat.dvd_sub hd (Nat.dvd_trans (Nat.pow_dvd_pow 2 h) ⟨c, by rw [hc, Nat.mul_comm]⟩)
theorem inn_big {y n sh : Nat} (hd : 2 ^ sh ∣ y + 1) (hn : y + 1 < n) (h64 : n < 18446744073709551616) : sh < inn y n := by
  obtain ⟨q, hq⟩ := hd
  have hp := Nat.two_pow_pos sh
  have h1 : y / 2 ^ sh < q := Nat.div_lt_of_lt_mul (by omega)
  have h2 : q ≤ (n - 1) / 2 ^ sh := (Nat.le_div_iff_mul_le hp).2 (by rw [Nat.mul_comm]; omega)
  have h3 : ¬ (y ^^^ (n - 1) < 2 ^ sh) := fun h => by have := (same_hi y (n - 1) sh).2 h; omega
  have h4 := inn_lt y n (by omega) h64
  exact (Nat.pow_lt_pow_iff_right (by omega : 1 < 2)).1 (Nat.lt_of_le_of_lt (Nat.le_of_not_lt h3) h4)
theorem inn_perfect (t : Nat) : inn (2 ^ t - 1) (2 ^ t) = 0 := by
  unfold inn
  rw [Nat.xor_self]
  rfl
theorem bitI_shift (x sh i : Nat) (hx : x < 18446744073709551616) (h : i < 64) : bitI ((x / 2 ^ sh : Nat) : Int) i = ((x / 2 ^ (sh + i) % 2 : Nat) : Int) := by
  rw [bitI_nat _ i (Nat.lt_of_le_of_lt (Nat.div_le_self _ _) hx), Nat.min_eq_left (by omega), Nat.div_div_eq_div_mul, ← Nat.pow_add]

/-- The reference's two roots are the program's chains. -/
theorem rootsF_ch (a0 a2 a5 : Int) (x sh : Nat) (hx64 : x < 18446744073709551616) (hsd : 2 ^ sh ∣ x + 1) (hsn : ¬ 2 ^ (sh + 1) ∣ x + 1) (st : Nat) (hst : st = if x + 1 = 2 ^ sh then 0 else 1) (r sd : List Int) : ∀ (T b e : Nat) (wh : Bool) (pf : List (List Int)), sd = (if x + 1 = 2 ^ sh then r else pf.getD 0 []) → T ≤ 64 → b ≤ x → x < e → e < 18446744073709551616 → (∃ u c, u ≤ T ∧ b = c * 2 ^ u ∧ e - b ≤ 2 ^ u) → (x + 1 = e → e - b = 2 ^ sh) → (wh = true ↔ b = 0) → pf.length + sh = st + vlen (x - b) (e - b) →
    rootsF a0 a2 a5 (x + 1) T b e wh pf r = (chB a0 a2 a5 ((pf.drop st).drop (inn (x - b) (e - b) - sh)) (chR a0 a2 a5 ((x / 2 ^ sh : Nat) : Int) ((pf.drop st).take (inn (x - b) (e - b) - sh)) sd 0), chB a0 a2 a5 ((pf.drop st).drop (inn (x - b) (e - b) - sh)) (chI a0 a2 a5 ((x / 2 ^ sh : Nat) : Int) ((pf.drop st).take (inn (x - b) (e - b) - sh)) sd 0)) := by
  have stop : ∀ (b e : Nat) (wh : Bool) (pf : List (List Int)), sd = (if x + 1 = 2 ^ sh then r else pf.getD 0 []) → b ≤ x → e < 18446744073709551616 → x + 1 = e → e - b = 2 ^ sh → (wh = true ↔ b = 0) → pf.length + sh = st + vlen (x - b) (e - b) → (if wh then (r, r) else (pf.getD 0 [], pf.getD 0 [])) = (chB a0 a2 a5 ((pf.drop st).drop (inn (x - b) (e - b) - sh)) (chR a0 a2 a5 ((x / 2 ^ sh : Nat) : Int) ((pf.drop st).take (inn (x - b) (e - b) - sh)) sd 0), chB a0 a2 a5 ((pf.drop st).drop (inn (x - b) (e - b) - sh)) (chI a0 a2 a5 ((x / 2 ^ sh : Nat) : Int) ((pf.drop st).take (inn (x - b) (e - b) - sh)) sd 0)) := by
    intro b e wh pf hsd' hb he64 hme hw hwh hpl
    have hp := Nat.two_pow_pos sh
    have h64 : sh < 64 := (Nat.pow_lt_pow_iff_right (by omega : 1 < 2)).1 (show 2 ^ sh < 2 ^ 64 by omega)
    rw [hw, show x - b = 2 ^ sh - 1 by omega, vlen_pow sh _ h64 (by omega)] at hpl
    have hnil : pf.drop st = [] := List.drop_eq_nil_of_le (by omega)
    rw [hnil]
    simp only [List.drop_nil, List.take_nil, chB, chR, chI]
    by_cases h0 : x + 1 = 2 ^ sh
    · rw [if_pos h0] at hsd'
      rw [if_pos (hwh.2 (by omega)), hsd']
    · rw [if_neg h0] at hsd'
      rw [if_neg (fun h => h0 (by have := hwh.1 h; omega)), hsd']
  intro T
  induction T with
  | zero =>
    intro b e wh pf hsd' hT hb hx he ⟨u, c, hu, hc, hw⟩ hstop hwh hpl
    obtain rfl : u = 0 := by omega
    have e1 : e - b = 1 := by simp at hw; omega
    rw [rootsF]
    exact stop b e wh pf hsd' hb he (by omega) (hstop (by omega)) hwh hpl
  | succ T ih =>
    intro b e wh pf hsd' hT hb hx he ⟨u, c, hu, hc, hw⟩ hstop hwh hpl
    rw [rootsF]
    by_cases h1 : x + 1 = e
    · rw [if_pos h1]
      exact stop b e wh pf hsd' hb he h1 (hstop h1) hwh hpl
    · rw [if_neg h1]
      have n0 : e - b - 1 ≠ 0 := by omega
      have g1 : 2 ^ Nat.log2 (e - b - 1) < e - b := by
        have := Nat.log2_self_le n0
        omega
      have g2 : e - b ≤ 2 ^ (Nat.log2 (e - b - 1) + 1) := by
        have := Nat.lt_log2_self (n := e - b - 1)
        omega
      generalize Nat.log2 (e - b - 1) = t at g1 g2 ⊢
      have htu : t < u := (Nat.pow_lt_pow_iff_right (by omega : 1 < 2)).1 (Nat.lt_of_lt_of_le g1 hw)
      have hp := Nat.two_pow_pos t
      have hq : 2 ^ (t + 1) = 2 * 2 ^ t := by rw [Nat.pow_succ, Nat.mul_comm]
      have hcT : b = (c * 2 ^ (u - t)) * 2 ^ t := by rw [hc, Nat.mul_assoc, ← pow_add_mul t u (by omega)]
      have hsu : sh < u := low_lt hsd hb (by omega) hc hw
      have hdb : 2 ^ sh ∣ x + 1 - b := low_dvd hsd hc (by omega)
      have hbit : ∀ i, sh + i < t + 1 → bitI ((x / 2 ^ sh : Nat) : Int) i = (((x - b) / 2 ^ (sh + i) % 2 : Nat) : Int) := fun i hi => by
        rw [bitI_shift x sh i hx64 (by omega), hc, bit_sub x c u (sh + i) (by omega) (hc ▸ hb)]
      have hst1 : st ≤ 1 := by rw [hst]; split <;> omega
      by_cases hlt : x + 1 ≤ b + 2 ^ t
      · rw [if_pos hlt]
        have hsht : sh ≤ t := by
          have := Nat.le_of_dvd (by omega) hdb
          exact (Nat.pow_le_pow_iff_right (by omega : 1 < 2)).1 (Nat.le_trans this (by omega))
        have hvl : vlen (x - b) (e - b) = t + 1 := vlen_left (by omega) (by omega) g1 g2 (by omega)
        have hin : inn (x - b) (e - b) = t + 1 := inn_left (by omega) (by omega) g1 g2 (by omega)
        have hlen : pf.length = (st + (t - sh)) + 1 := by omega
        obtain ⟨hs, hsl⟩ := snoc_of pf (st + (t - sh)) hlen
        have hstop' : x + 1 = b + 2 ^ t → b + 2 ^ t - b = 2 ^ sh := fun hm => by
          have hle : ¬ sh < t := fun hlt' => by
            refine hsn ?_
            have d1 : 2 ^ (sh + 1) ∣ 2 ^ t := Nat.pow_dvd_pow 2 (by omega)
            rw [hm, hcT]
            exact Nat.dvd_add (Nat.dvd_trans d1 ⟨_, Nat.mul_comm _ _⟩) d1
          have : sh = t := by omega
          subst this
          omega
        have hd0 : ∀ (k : Nat), st ≤ k → (x + 1 = 2 ^ sh ∨ st = 1) → sd = (if x + 1 = 2 ^ sh then r else (pf.take (st + (t - sh))).getD 0 []) := fun _ _ _ => by
          rw [hsd']
          by_cases h0 : x + 1 = 2 ^ sh
          · rw [if_pos h0, if_pos h0]
          · rw [if_neg h0, if_neg h0]
            have hs1 : st = 1 := by rw [hst, if_neg h0]
            rw [List.getD_eq_getElem?_getD, List.getD_eq_getElem?_getD, List.getElem?_take_of_lt (by omega)]
        have hsd2 : sd = (if x + 1 = 2 ^ sh then r else (pf.take (st + (t - sh))).getD 0 []) := hd0 st (Nat.le_refl _) (by
          by_cases h0 : x + 1 = 2 ^ sh
          · exact .inl h0
          · exact .inr (by rw [hst, if_neg h0]))
        have ih := ih b (b + 2 ^ t) wh (pf.take (st + (t - sh))) hsd2 (by omega) hb (by omega) (by omega) ⟨t, _, by omega, hcT, by omega⟩ hstop' hwh (by rw [hsl, show b + 2 ^ t - b = 2 ^ t by omega, vlen_pow t (x - b) (by omega) (by omega)]; omega)
        rw [show b + 2 ^ t - b = 2 ^ t by omega] at ih
        rw [show pf.length - 1 = st + (t - sh) by omega, ih, hin]
        have hrest : pf.drop st = (pf.take (st + (t - sh))).drop st ++ [pf.getD (st + (t - sh)) []] := by
          conv => lhs; rw [hs]
          rw [List.drop_append_of_le_length (by omega)]
        have hrl : ((pf.take (st + (t - sh))).drop st).length = t - sh := by rw [List.length_drop]; omega
        rw [hrest]
        generalize (pf.take (st + (t - sh))).drop st = rs at hrl ⊢
        generalize pf.getD (st + (t - sh)) [] = lst
        rw [List.drop_eq_nil_of_le (show (rs ++ [lst]).length ≤ t + 1 - sh by rw [List.length_append, hrl, List.length_singleton]; omega), List.take_of_length_le (show (rs ++ [lst]).length ≤ t + 1 - sh by rw [List.length_append, hrl, List.length_singleton]; omega), chB, chB]
        have hlast : bitI ((x / 2 ^ sh : Nat) : Int) (0 + rs.length) = ((0 : Nat) : Int) := by
          rw [hrl, hbit _ (by omega), show sh + (0 + (t - sh)) = t by omega, Nat.div_eq_of_lt (by omega)]
        have ones : ∀ j, (rs.take (inn (x - b) (2 ^ t) - sh)).length ≤ j → j < t - sh → bitI ((x / 2 ^ sh : Nat) : Int) j = 1 := fun j h1 h2 => by
          rw [List.length_take] at h1
          rw [hbit j (by omega), ones_above (x - b) t (by omega) (by omega) (sh + j) (by omega) (by omega)]
          rfl
        have e1 : chI a0 a2 a5 ((x / 2 ^ sh : Nat) : Int) rs sd 0 = chB a0 a2 a5 (rs.drop (inn (x - b) (2 ^ t) - sh)) (chI a0 a2 a5 ((x / 2 ^ sh : Nat) : Int) (rs.take (inn (x - b) (2 ^ t) - sh)) sd 0) := by
          conv => lhs; rw [← List.take_append_drop (inn (x - b) (2 ^ t) - sh) rs]
          rw [chI_append, chI_ones]
          intro j h1 h2
          rw [List.length_take, List.length_drop] at h2
          rw [ones j (by omega) (by omega)]
          decide
        have e2 : chR a0 a2 a5 ((x / 2 ^ sh : Nat) : Int) rs sd 0 = chB a0 a2 a5 (rs.drop (inn (x - b) (2 ^ t) - sh)) (chR a0 a2 a5 ((x / 2 ^ sh : Nat) : Int) (rs.take (inn (x - b) (2 ^ t) - sh)) sd 0) := by
          conv => lhs; rw [← List.take_append_drop (inn (x - b) (2 ^ t) - sh) rs]
          rw [chR_append, chR_ones]
          intro j h1 h2
          rw [List.length_take, List.length_drop] at h2
          exact ones j (by omega) (by omega)
        rw [← e1, ← e2]
        rw [chI_append, chI, chI, chR_append, chR, chR, if_neg (by rw [hlast]; decide), if_pos (by rw [hlast]; rfl)]
      · rw [if_neg hlt]
        have hvl : vlen (x - b) (e - b) = vlen (x - b - 2 ^ t) (e - b - 2 ^ t) + 1 := vlen_right (by omega) (by omega) (by omega) g2
        have hin : inn (x - b) (e - b) = inn (x - b - 2 ^ t) (e - b - 2 ^ t) := inn_right (by omega) (by omega) g2
        have hbig : sh < inn (x - b) (e - b) := inn_big (by rw [show x - b + 1 = x + 1 - b by omega]; exact hdb) (by omega) (by omega)
        have hiv := inn_vlen (x - b - 2 ^ t) (e - b - 2 ^ t)
        have hne : x + 1 ≠ 2 ^ sh := fun h0 => by
          have hle : 2 ^ sh ≤ x + 1 - b := Nat.le_of_dvd (by omega) hdb
          have : b = 0 := by omega
          subst this
          have : 2 ^ sh ≤ 2 ^ t := Nat.pow_le_pow_right (by omega) (by
            refine Nat.le_of_not_lt fun h => ?_
            have : 2 ^ (t + 1) ≤ 2 ^ sh := Nat.pow_le_pow_right (by omega) (by omega)
            omega)
          omega
        have hs1 : st = 1 := by rw [hst, if_neg hne]
        have hlen : pf.length = (pf.length - 1) + 1 := by omega
        obtain ⟨hs, hsl⟩ := snoc_of pf (pf.length - 1) hlen
        have hl2 : 2 ≤ pf.length := by omega
        have hsd2 : sd = (if x + 1 = 2 ^ sh then r else (pf.take (pf.length - 1)).getD 0 []) := by
          rw [hsd', if_neg hne, if_neg hne, List.getD_eq_getElem?_getD, List.getD_eq_getElem?_getD, List.getElem?_take_of_lt (by omega)]
        have ih := ih (b + 2 ^ t) e false (pf.take (pf.length - 1)) hsd2 (by omega) (by omega) hx he ⟨t, c * 2 ^ (u - t) + 1, by omega, by rw [Nat.add_mul, Nat.one_mul, ← hcT], by omega⟩ (fun h => absurd h h1) ⟨fun h => (by cases h), fun h => absurd h (by omega)⟩ (by rw [hsl, show x - (b + 2 ^ t) = x - b - 2 ^ t by omega, show e - (b + 2 ^ t) = e - b - 2 ^ t by omega]; omega)
        rw [show x - (b + 2 ^ t) = x - b - 2 ^ t by omega, show e - (b + 2 ^ t) = e - b - 2 ^ t by omega] at ih
        have hrest : pf.drop st = (pf.take (pf.length - 1)).drop st ++ [pf.getD (pf.length - 1) []] := by
          conv => lhs; rw [hs]
          rw [List.drop_append_of_le_length (by omega)]
        have hrl : inn (x - b - 2 ^ t) (e - b - 2 ^ t) - sh ≤ ((pf.take (pf.length - 1)).drop st).length := by rw [List.length_drop]; omega
        rw [ih, hin, hrest]
        generalize (pf.take (pf.length - 1)).drop st = rs at hrl ⊢
        generalize pf.getD (pf.length - 1) [] = lst
        rw [List.drop_append_of_le_length hrl, List.take_append_of_le_length hrl, chB_append, chB_append]
        rfl

/-- How long a consistency proof is. -/
theorem start_plus (x sh n : Nat) (hx : x + 1 < n) (hn : n < 18446744073709551616) (hsd : 2 ^ sh ∣ x + 1) : sh < inn x n ∧ inn x n ≤ vlen x n := ⟨inn_big hsd hx hn, inn_vlen x n⟩
end Go.Proofs.YtfhcpniibiobgaaDoor.Pure
