/- Several texts, joined. -/
import Derived.Test.YtfhcpniibiobgaaDoorJk
import Derived.Test.YtfhcpniibiobgaaDoorJx
import Derived.Test.YtfhcpniibiobgaaDoorJm
import Derived.Test.YtfhcpniibiobgaaDoorJr
namespace Go.Proofs.YtfhcpniibiobgaaDoor.Pure
open Go.RowKit
def hcF (a0 a2 a5 : Int) (l1 l2 : List Int) : List Int :=
  if a0 = 1 then Hs.wordF (Hs.mixF a5 (l1 ++ [255] ++ l2)) a2 else [1] ++ Hs.wordF (l1.length : Int) 8 ++ l1 ++ l2
theorem wordF_len (w n : Int) : (Hs.wordF w n).length ≤ 8 := by
  unfold Hs.wordF
  rw [List.length_map, List.length_range]
  exact (Hs.wn_pos n).2
theorem hcF_len (a0 a2 a5 : Int) (l1 l2 : List Int) : (hcF a0 a2 a5 l1 l2).length ≤ l1.length + l2.length + 9 := by
  unfold hcF
  split
  · have := wordF_len (Hs.mixF a5 (l1 ++ [255] ++ l2)) a2
    omega
  · have := wordF_len (l1.length : Int) 8
    simp only [List.length_append, List.length_cons, List.length_nil]
    omega
theorem toyHC (a0 a1 a2 a3 a4 a5 : Int) (l1 l2 : List Int) (h1 : l1.length ≤ 10000000000000) (h2 : l2.length ≤ 10000000000000) : Qf.impl_toy_HashChildren.f a0 a1 a2 a3 a4 a5 l1 l2 = some (hcF a0 a2 a5 l1 l2) := by
  unfold Qf.impl_toy_HashChildren.f hcF
  by_cases h : a0 = 1
  · rw [if_pos h, if_pos h]
    simp only [Qf.impl_mixed.f, Qf.impl_word.f]
    rw [if_pos (by omega)]
    simp only [Option.bind_some]
    rw [if_pos (by simp)]
    simp only [Option.bind_some]
    rw [if_pos (by omega)]
    simp only [Option.bind_some]
    congr 2
    unfold Hs.mixF
    rw [List.foldl_append, List.foldl_append]
  · rw [if_neg h, if_neg h]
    have hw : IntKind.u64.wrap (l1.length : Int) = l1.length := by
      show ((l1.length : Int)) % 18446744073709551616 = l1.length
      omega
    have hl := wordF_len (l1.length : Int) 8
    simp only [Option.bind_some, Qf.impl_word.f, hw]
    rw [if_pos (by simp only [List.length_cons, List.length_nil]; omega), if_pos (by simp only [List.length_append, List.length_cons, List.length_nil]; omega), if_pos (by simp only [List.length_append, List.length_cons, List.length_nil]; omega)]
theorem w64p (n : Int) (h : -9223372036854775808 ≤ n ∧ n ≤ 9223372036854775807) : wrap64 n = n := by unfold wrap64; omega
end Go.Proofs.YtfhcpniibiobgaaDoor.Pure
namespace Go.Proofs.YtfhcpniibiobgaaDoor.Pure
open Go.RowKit Go.Proofs.YtfhcpniibiobgaaDoorW.PrintWords Go.Proofs.YtfhcpniibiobgaaDoorW.PrintMore Go.Proofs.YtfhcpniibiobgaaDoorW.PrintLast
abbrev bitI (ix : Int) (i : Nat) : Int := Go.bits .and .u64 (ix / 2 ^ min i 64) 1
def chI (a0 a2 a5 ix : Int) : List (List Int) → List Int → Nat → List Int
  | [], s, _ => s
  | h :: t, s, i => chI a0 a2 a5 ix t (if bitI ix i = 0 then hcF a0 a2 a5 s h else hcF a0 a2 a5 h s) (i + 1)
def chB (a0 a2 a5 : Int) : List (List Int) → List Int → List Int
  | [], s => s
  | h :: t, s => chB a0 a2 a5 t (hcF a0 a2 a5 h s)
theorem chI_len (a0 a2 a5 ix : Int) : ∀ (l : List (List Int)) (s : List Int) (i : Nat), (∀ h ∈ l, h.length ≤ 3000000000) → (chI a0 a2 a5 ix l s i).length ≤ s.length + 3000000009 * l.length
  | [], s, i, _ => by simp [chI]
  | h :: t, s, i, hl => by
    have h1 := hl h (by simp)
    have e1 := hcF_len a0 a2 a5 s h
    have e2 := hcF_len a0 a2 a5 h s
    rw [chI, List.length_cons]
    split
    · have := chI_len a0 a2 a5 ix t (hcF a0 a2 a5 s h) (i + 1) (fun x hx => hl x (by simp [hx]))
      omega
    · have := chI_len a0 a2 a5 ix t (hcF a0 a2 a5 h s) (i + 1) (fun x hx => hl x (by simp [hx]))
      omega
theorem chB_len (a0 a2 a5 : Int) : ∀ (l : List (List Int)) (s : List Int), (∀ h ∈ l, h.length ≤ 3000000000) → (chB a0 a2 a5 l s).length ≤ s.length + 3000000009 * l.length
  | [], s, _ => by simp [chB]
  | h :: t, s, hl => by
    have h1 := hl h (by simp)
    have e2 := hcF_len a0 a2 a5 h s
    rw [chB, List.length_cons]
    have := chB_len a0 a2 a5 t (hcF a0 a2 a5 h s) (fun x hx => hl x (by simp [hx]))
    omega
theorem toyI (a0 a1 a2 a3 a4 a5 ix : Int) : ∀ (l : List (List Int)) (s : List Int) (i : Nat), (∀ h ∈ l, h.length ≤ 3000000000) → s.length + 3000000009 * l.length ≤ 10000000000000 → Qe.chainI a0 a1 a2 a3 a4 a5 ix l s i = some (chI a0 a2 a5 ix l s i)
  | [], s, i, _, _ => rfl
  | h :: t, s, i, hl, hs => by
    have h1 := hl h (by simp)
    rw [List.length_cons] at hs
    have e1 := hcF_len a0 a2 a5 s h
    have e2 := hcF_len a0 a2 a5 h s
    rw [Qe.chainI, chI, toyHC a0 a1 a2 a3 a4 a5 s h (by omega) (by omega), toyHC a0 a1 a2 a3 a4 a5 h s (by omega) (by omega)]
    by_cases hb : bitI ix i = 0
    · rw [if_pos hb, if_pos hb, Option.bind_some]
      exact toyI a0 a1 a2 a3 a4 a5 ix t _ (i + 1) (fun x hx => hl x (by simp [hx])) (by omega)
    · rw [if_neg hb, if_neg hb, Option.bind_some]
      exact toyI a0 a1 a2 a3 a4 a5 ix t _ (i + 1) (fun x hx => hl x (by simp [hx])) (by omega)
theorem toyB (a0 a1 a2 a3 a4 a5 : Int) : ∀ (l : List (List Int)) (s : List Int), (∀ h ∈ l, h.length ≤ 3000000000) → s.length + 3000000009 * l.length ≤ 10000000000000 → Qe.chainB a0 a1 a2 a3 a4 a5 l s = some (chB a0 a2 a5 l s)
  | [], s, _, _ => rfl
  | h :: t, s, hl, hs => by
    have h1 := hl h (by simp)
    rw [List.length_cons] at hs
    have e2 := hcF_len a0 a2 a5 h s
    rw [Qe.chainB, chB, toyHC a0 a1 a2 a3 a4 a5 h s (by omega) (by omega), Option.bind_some]
    exact toyB a0 a1 a2 a3 a4 a5 t _ (fun x hx => hl x (by simp [hx])) (by omega)
end Go.Proofs.YtfhcpniibiobgaaDoor.Pure
namespace Go.Proofs.YtfhcpniibiobgaaDoor.Pure
open Go.RowKit Go.Proofs.YtfhcpniibiobgaaDoorW.PrintWords Go.Proofs.YtfhcpniibiobgaaDoorW.PrintMore Go.Proofs.YtfhcpniibiobgaaDoorW.PrintLast
theorem row_at (L : List (List Int)) (j : Nat) (hj : j < L.length) : Qf.rd_L1 L (j : Int) = L[j] := by
  show L.getD (j : Int).toNat [] = L[j]
  rw [Int.toNat_natCast, List.getD_eq_getElem?_getD, List.getElem?_eq_getElem hj]
  rfl
theorem zz_go (L : List (List Int)) (hL : L.length ≤ 2147483647) : ∀ (m j k : Nat), j + m = L.length → m < k → ∃ b, Qf.laws_zzFits2.l0 k L (L.length : Int) (j : Int) = some b
  | 0, j, k + 1, h, _ => by
    rw [Qf.laws_zzFits2.l0, if_neg (by omega)]
    exact ⟨_, rfl⟩
  | m + 1, j, k + 1, h, hk => by
    rw [Qf.laws_zzFits2.l0, if_pos (by omega), if_pos (by omega), if_pos (by omega)]
    split
    · exact ⟨_, rfl⟩
    · rw [w64p _ (by omega), show ((j : Int) + 1) = ((j + 1 : Nat) : Int) by omega]
      exact zz_go L hL m (j + 1) k (by omega) (by omega)
theorem zz_f (L : List (List Int)) (k : Nat) (hk : 2147483648 ≤ k) : ∃ b, Qf.laws_zzFits2.f k L = some b ∧ (b = true → L.length ≤ 2147483647) := by
  unfold Qf.laws_zzFits2.f
  by_cases h : (L.length : Int) > 2147483647
  · rw [if_pos h]
    exact ⟨_, rfl, fun h => by cases h⟩
  · rw [if_neg h]
    obtain ⟨b, hb⟩ := zz_go L (by omega) L.length 0 k (by omega) (by omega)
    exact ⟨b, hb, fun _ => by omega⟩
theorem small_go (L : List (List Int)) (hL : L.length ≤ 2147483647) : ∀ (m j k : Nat), j + m = L.length → m < k → ∃ b, Qf.laws_logSmall.l0 k L L (L.length : Int) (j : Int) = some b ∧ (b = true → L.length ≤ 300 ∧ ∀ h ∈ L.drop j, h.length ≤ 5000)
  | 0, j, k + 1, h, _ => by
    rw [Qf.laws_logSmall.l0, if_neg (by omega)]
    refine ⟨_, rfl, fun hb => ⟨by have := of_decide_eq_true hb; omega, fun x hx => ?_⟩⟩
    rw [List.drop_eq_nil_of_le (by omega)] at hx
    cases hx
  | m + 1, j, k + 1, h, hk => by
    have hj : j < L.length := by omega
    rw [Qf.laws_logSmall.l0, if_pos (by omega), if_pos (by omega), if_pos (by omega), row_at L j hj]
    by_cases hb : (L[j].length : Int) > 5000
    · rw [if_pos hb]
      exact ⟨_, rfl, fun h => by cases h⟩
    · rw [if_neg hb, w64p _ (by omega), show ((j : Int) + 1) = ((j + 1 : Nat) : Int) by omega]
      obtain ⟨b, e, hbt⟩ := small_go L hL m (j + 1) k (by omega) (by omega)
      refine ⟨b, e, fun ht => ⟨(hbt ht).1, fun x hx => ?_⟩⟩
      rw [List.drop_eq_getElem_cons hj] at hx
      rcases List.mem_cons.1 hx with rfl | hx
      · omega
      · exact (hbt ht).2 x hx
theorem small_f (L : List (List Int)) (hL : L.length ≤ 2147483647) (k : Nat) (hk : 2147483648 ≤ k) : ∃ b, Qf.laws_logSmall.f k L = some b ∧ (b = true → L.length ≤ 300 ∧ ∀ h ∈ L, h.length ≤ 5000) := by
  obtain ⟨b, e, h⟩ := small_go L hL L.length 0 k (by omega) (by omega)
  exact ⟨b, e, fun hb => by simpa using h hb⟩
theorem bitI_nat (x i : Nat) (hx : x < 18446744073709551616) : bitI (x : Int) i = ((x / 2 ^ min i 64 % 2 : Nat) : Int) := by
  have h1 : x / 2 ^ min i 64 ≤ x := Nat.div_le_self _ _
  show Go.bits .and .u64 ((x : Int) / 2 ^ min i 64) 1 = _
  rw [show ((x : Int) / 2 ^ min i 64) = ((x / 2 ^ min i 64 : Nat) : Int) by push_cast; rfl, show (1 : Int) = ((1 : Nat) : Int) from rfl, bits_and_u64_nat _ _ (by omega) (by omega), Nat.and_one_is_mod]
end Go.Proofs.YtfhcpniibiobgaaDoor.Pure
namespace Go.Proofs.YtfhcpniibiobgaaDoor.Pure
open Go.RowKit Go.Proofs.YtfhcpniibiobgaaDoorW.PrintWords Go.Proofs.YtfhcpniibiobgaaDoorW.PrintMore Go.Proofs.YtfhcpniibiobgaaDoorW.PrintLast
open Go.Proofs.YtfhcpniibiobgaaDoor.M (vlen inn vlen_left vlen_right vlen_one)
theorem wu (n : Int) (h : 0 ≤ n ∧ n < 18446744073709551616) : IntKind.u64.wrap n = n := by
  show n % 18446744073709551616 = n
  omega
theorem vlen_pow : ∀ (t i : Nat), t < 64 → i < 2 ^ t → vlen i (2 ^ t) = t
  | 0, i, _, h => by
    obtain rfl : i = 0 := by simpa using h
    exact vlen_one
  | t + 1, i, ht, h => by
    have hq : 2 ^ (t + 1) = 2 * 2 ^ t := by rw [Nat.pow_succ, Nat.mul_comm]
    have hp := Nat.two_pow_pos t
    have h64 : 2 ^ (t + 1) < 2 ^ 64 := Nat.pow_lt_pow_right (by omega) (by omega)
    by_cases hi : i < 2 ^ t
    · exact vlen_left (by omega) hi (by omega) (Nat.le_refl _) h64
    · rw [vlen_right (by omega) (by omega) h (Nat.le_refl _), show 2 ^ (t + 1) - 2 ^ t = 2 ^ t by omega, vlen_pow t (i - 2 ^ t) (by omega) (by omega)]
theorem split_go (n t : Nat) (hn : n < 18446744073709551616) (h1 : 2 ^ t < n) (h2 : n ≤ 2 ^ (t + 1)) : ∀ (d j k : Nat), j + d = t → d < k → Qf.spec_split.l0 k (n : Int) ((2 ^ j : Nat) : Int) = some ((2 ^ t : Nat) : Int)
  | 0, j, k + 1, hj, _ => by
    obtain rfl : j = t := by omega
    have hq : 2 ^ (j + 1) = 2 * 2 ^ j := by rw [Nat.pow_succ, Nat.mul_comm]
    rw [Qf.spec_split.l0, wu _ (by omega), if_neg (by omega)]
  | d + 1, j, k + 1, hj, hk => by
    have hq : 2 ^ (j + 1) = 2 * 2 ^ j := by rw [Nat.pow_succ, Nat.mul_comm]
    have hle : 2 ^ (j + 1) ≤ 2 ^ t := Nat.pow_le_pow_right (by omega) (by omega)
    rw [Qf.spec_split.l0, wu _ (by omega), if_pos (by omega), wu _ (by omega), show (((2 ^ j : Nat) : Int) * 2) = ((2 ^ (j + 1) : Nat) : Int) by omega]
    exact split_go n t hn h1 h2 d (j + 1) k (by omega) (by omega)
theorem log_at (n : Nat) (h : 2 ≤ n) (hn : n < 18446744073709551616) : ∃ t, t < 64 ∧ 2 ^ t < n ∧ n ≤ 2 ^ (t + 1) := by
  have a := Nat.log2_self_le (show n - 1 ≠ 0 by omega)
  have b := Nat.lt_log2_self (n := n - 1)
  refine ⟨Nat.log2 (n - 1), ?_, by omega, by omega⟩
  have : 2 ^ Nat.log2 (n - 1) < 2 ^ 64 := by omega
  exact (Nat.pow_lt_pow_iff_right (by omega)).1 this
theorem path_go (x : Nat) : ∀ (T b e k : Nat), T ≤ 64 → b ≤ x → x < e → e < 18446744073709551616 → e - b ≤ 2 ^ T → T + 70 ≤ k → ∃ l, Qf.spec_pathIn.f k (x : Int) (b : Int) (e : Int) = some l ∧ l.length = vlen (x - b) (e - b) ∧ l.length ≤ T
  | T, b, e, k, hT, hb, he, he64, hw, hk => by
    obtain ⟨k, rfl⟩ : ∃ k', k = k' + 1 := ⟨k - 1, by omega⟩
    have w1 : IntKind.u64.wrap ((e : Int) - (b : Int)) = ((e - b : Nat) : Int) := by rw [wu _ (by omega)]; omega
    rw [Qf.spec_pathIn.f, w1]
    by_cases h1 : e - b = 1
    · rw [if_pos (by omega), h1, show x - b = 0 by omega, vlen_one]
      exact ⟨[], rfl, rfl, Nat.zero_le _⟩
    · rw [if_neg (by omega)]
      obtain ⟨t, ht, g1, g2⟩ := log_at (e - b) (by omega) (by omega)
      have hp := Nat.two_pow_pos t
      have hsp : Qf.spec_split.f k ((e - b : Nat) : Int) = some ((2 ^ t : Nat) : Int) := split_go (e - b) t (by omega) g1 g2 t 0 k (by omega) (by omega)
      have htT : t < T := (Nat.pow_lt_pow_iff_right (by omega : 1 < 2)).1 (Nat.lt_of_lt_of_le g1 hw)
      obtain ⟨T, rfl⟩ : ∃ T', T = T' + 1 := ⟨T - 1, by omega⟩
      have hle : 2 ^ t ≤ 2 ^ T := Nat.pow_le_pow_right (by omega) (by omega)
      have w2 : IntKind.u64.wrap ((b : Int) + ((2 ^ t : Nat) : Int)) = ((b + 2 ^ t : Nat) : Int) := by rw [wu _ (by omega)]; omega
      rw [hsp, Option.bind_some, w2]
      by_cases hx : x < b + 2 ^ t
      · rw [if_pos (by omega)]
        obtain ⟨l, hl, hlen, hlT⟩ := path_go x T b (b + 2 ^ t) k (by omega) hb hx (by omega) (by omega) (by omega)
        rw [hl, Option.bind_some, Option.bind_some, if_pos (by simp; omega)]
        refine ⟨_, rfl, ?_, by simp; omega⟩
        rw [List.length_append, hlen, show b + 2 ^ t - b = 2 ^ t by omega, vlen_pow t (x - b) ht (by omega), vlen_left ht (by omega) g1 g2 (by omega)]
        rfl
      · rw [if_neg (by omega)]
        have hq : 2 ^ (t + 1) = 2 * 2 ^ t := by rw [Nat.pow_succ, Nat.mul_comm]
        obtain ⟨l, hl, hlen, hlT⟩ := path_go x T (b + 2 ^ t) e k (by omega) (by omega) he he64 (by omega) (by omega)
        rw [hl, Option.bind_some, Option.bind_some, if_pos (by simp; omega)]
        refine ⟨_, rfl, ?_, by simp; omega⟩
        rw [List.length_append, hlen, vlen_right (i := x - b) (n := e - b) ht (by omega) (by omega) g2, show x - b - 2 ^ t = x - (b + 2 ^ t) by omega, show e - b - 2 ^ t = e - (b + 2 ^ t) by omega]
        rfl
termination_by T => T
end Go.Proofs.YtfhcpniibiobgaaDoor.Pure
namespace Go.Proofs.YtfhcpniibiobgaaDoor.Pure
open Go.RowKit Go.Proofs.YtfhcpniibiobgaaDoorW.PrintWords Go.Proofs.YtfhcpniibiobgaaDoorW.PrintMore Go.Proofs.YtfhcpniibiobgaaDoorW.PrintLast
open Go.Proofs.YtfhcpniibiobgaaDoor.M (vlen inn pc y1 y2 y3)
theorem pc_le : ∀ (f x : Nat), pc f x ≤ f
  | 0, _ => Nat.le_refl _
  | f + 1, x => by
    rw [M.pc]
    have := pc_le f (x / 2)
    omega
theorem xor_lt (x y : Nat) (hx : x < 18446744073709551616) (hy : y < 18446744073709551616) : x ^^^ y < 18446744073709551616 := Nat.xor_lt_two_pow (n := 64) hx hy
theorem inn_le (x n : Nat) (hx : x < n) (hn : n < 18446744073709551616) : inn x n ≤ 64 := by
  unfold inn
  by_cases h : x ^^^ (n - 1) = 0
  · rw [h]
    exact Nat.zero_le _
  · exact (M.len_spec _ h (xor_lt x (n - 1) (by omega) (by omega))).2.1
theorem inn_lt (x n : Nat) (hx : x < n) (hn : n < 18446744073709551616) : x ^^^ (n - 1) < 2 ^ inn x n := by
  unfold inn
  by_cases h : x ^^^ (n - 1) = 0
  · rw [h]
    exact Nat.two_pow_pos _
  · exact (M.len_spec _ h (xor_lt x (n - 1) (by omega) (by omega))).2.2.2
theorem inn_gt (x n j : Nat) (hx : x < n) (hn : n < 18446744073709551616) (hj : j < inn x n) : 2 ^ j ≤ x ^^^ (n - 1) := by
  unfold inn at hj
  have h : x ^^^ (n - 1) ≠ 0 := by
    intro h
    rw [h] at hj
    exact absurd hj (by simp [Lib.bitLen, Lib.bitLenAux])
  have := (M.len_spec _ h (xor_lt x (n - 1) (by omega) (by omega))).2.2.1
  exact Nat.le_trans (Nat.pow_le_pow_right (by omega) (by omega)) this
theorem xor_eq (x y : Nat) (h : x ^^^ y = 0) : x = y := by
  have : (x ^^^ y) ^^^ y = 0 ^^^ y := by rw [h]
  rwa [Nat.xor_assoc, Nat.xor_self, Nat.xor_zero, Nat.zero_xor] at this
theorem same_hi (x y j : Nat) : x / 2 ^ j = y / 2 ^ j ↔ x ^^^ y < 2 ^ j := by
  have e : (x ^^^ y) / 2 ^ j = (x / 2 ^ j) ^^^ (y / 2 ^ j) := Nat.xor_div_two_pow
  constructor
  · intro h
    rw [h, Nat.xor_self] at e
    exact (Nat.div_eq_zero_iff_lt (Nat.two_pow_pos j)).1 e
  · intro h
    rw [Nat.div_eq_of_lt h] at e
    exact xor_eq _ _ e.symm
theorem decomp_f (x n : Nat) (hx : x < n) (hn : n < 18446744073709551616) : Qf.proof_decompInclProof.f (x : Int) (n : Int) = some (((inn x n : Nat) : Int), ((pc 64 (x / 2 ^ inn x n) : Nat) : Int)) := by
  have h64 := inn_le x n hx hn
  have w : IntKind.u64.wrap ((n : Int) - 1) = ((n - 1 : Nat) : Int) := by rw [wu _ (by omega)]; omega
  have hxl := xor_lt x (n - 1) (by omega) (by omega)
  have hi : Qf.proof_innerProofSize.f (x : Int) (n : Int) = some ((inn x n : Nat) : Int) := by
    unfold Qf.proof_innerProofSize.f Qf.bits_Len64.f
    rw [w, bits_xor_u64_nat x (n - 1) (by omega) (by omega), if_pos (by omega), if_pos (by omega), Option.bind_some, Int.toNat_natCast]
    rfl
  unfold Qf.proof_decompInclProof.f
  rw [hi, Option.bind_some, wu _ (by omega), if_pos (by omega)]
  have sh : shr .u64 (x : Int) ((inn x n : Nat) : Int) = ((x / 2 ^ inn x n : Nat) : Int) := by
    show (x : Int) / 2 ^ min ((inn x n : Nat) : Int).toNat 64 = _
    rw [Int.toNat_natCast, Nat.min_eq_left h64]
    push_cast
    rfl
  rw [sh, onesCount_of _ (Nat.lt_of_le_of_lt (Nat.div_le_self _ _) (by omega)), Option.bind_some]
end Go.Proofs.YtfhcpniibiobgaaDoor.Pure
namespace Go.Proofs.YtfhcpniibiobgaaDoor.Pure
open Go.RowKit Go.Proofs.YtfhcpniibiobgaaDoorW.PrintWords Go.Proofs.YtfhcpniibiobgaaDoorW.PrintMore Go.Proofs.YtfhcpniibiobgaaDoorW.PrintLast
theorem nat_of_wf {x : Int} (h : (Lit.int .u64 x).wf = true) : ∃ n : Nat, x = (n : Int) ∧ n < 18446744073709551616 := by
  have h2 : IntKind.u64.min ≤ x ∧ x ≤ IntKind.u64.max := by simpa [Lit.wf] using h
  have e1 : IntKind.u64.min = 0 := rfl
  have e2 : IntKind.u64.max = 18446744073709551615 := rfl
  exact ⟨x.toNat, by omega, by omega⟩
theorem texts_go (L : List (List Int)) (hL : L.length ≤ 5864062014804) (hrow : ∀ x ∈ L, x.length < 140737488355328) : ∀ (m j k : Nat), j + m = L.length → m < k → Qf.impl_texts.l0 k (L.take j) L (L.length : Int) (j : Int) = some L
  | 0, j, k + 1, h, _ => by
    unfold Qf.impl_texts.l0
    rw [if_neg (by omega), List.take_of_length_le (by omega)]
  | m + 1, j, k + 1, h, hk => by
    have hj : j < L.length := by omega
    have hx : Qf.rd_L1 L (j : Int) = L[j] := by
      show L.getD (j : Int).toNat [] = L[j]
      rw [Int.toNat_natCast, List.getD_eq_getElem?_getD, List.getElem?_eq_getElem hj]
      rfl
    unfold Qf.impl_texts.l0
    rw [if_pos (by omega), if_pos (by omega), if_pos (by omega), Option.bind_some, hx, List.nil_append, if_pos (by have := hrow L[j] (List.getElem_mem hj); simpa using this), if_pos (by rw [List.length_take]; omega), ← List.take_succ_eq_append_getElem hj, w64p _ (by omega), show ((j : Int) + 1) = ((j + 1 : Nat) : Int) by omega]
    exact texts_go L hL hrow m (j + 1) k (by omega) (by omega)
theorem texts_ok (L : List (List Int)) (k : Nat) (hk : L.length < k) (hL : L.length ≤ 5864062014804) (hrow : ∀ x ∈ L, x.length < 140737488355328) : Qf.impl_texts.f k L = some L := texts_go L hL hrow L.length 0 k (by omega) hk
theorem len64 (z : Nat) (h : z < 18446744073709551616) : Qf.bits_Len64.f (z : Int) = some ((Lib.bitLen z : Nat) : Int) := by
  unfold Qf.bits_Len64.f
  rw [if_pos (by omega), if_pos (by omega), Int.toNat_natCast]
theorem tz64 (z : Nat) (h : z < 18446744073709551616) : Qf.bits_TrailingZeros64.f (z : Int) = some ((Lib.ctz 64 z : Nat) : Int) := by
  unfold Qf.bits_TrailingZeros64.f
  rw [if_pos (by omega), if_pos (by omega), Int.toNat_natCast]
theorem lt64 {x y : Nat} (hx : x < 18446744073709551616) (hy : y < 18446744073709551616) : x ^^^ y < 18446744073709551616 := Nat.xor_lt_two_pow (n := 64) hx hy
theorem wlast (h : Nat) (h1 : 1 ≤ h) (h2 : h ≤ 64) : IntKind.u64.wrap (wrap64 ((h : Int) - 1)) = ((h - 1 : Nat) : Int) := by
  rw [w64 (by omega) (by omega), wu64 (by omega) (by omega)]
  omega
theorem before (e : Nat) (he : e < 18446744073709551616) : ∃ pe : Nat, IntKind.u64.wrap ((e : Int) - 1) = (pe : Int) ∧ pe < 18446744073709551616 ∧ (e ≠ 0 → pe = e - 1) ∧ (e = 0 → pe = 18446744073709551615) := by
  by_cases h : e = 0
  · subst h
    exact ⟨18446744073709551615, rfl, by omega, fun h => absurd rfl h, fun _ => rfl⟩
  · exact ⟨e - 1, by rw [wu64 (by omega) (by omega)]; omega, by omega, fun _ => rfl, fun h' => absurd h' h⟩
theorem tie_min {h1 h2 : Nat} (t : Int) (u v : Int) (hu : u = ((h2 - 1 : Nat) : Int)) (hv : v = ((h1 - 1 : Nat) : Int)) : (if (h2 : Int) < (h1 : Int) then some (t, u) else some (t, v)) = some (t, ((min h1 h2 - 1 : Nat) : Int)) := by
  by_cases h : h2 < h1
  · rw [if_pos (by omega), hu, show min h1 h2 = h2 by omega]
  · rw [if_neg (by omega), hv, show min h1 h2 = h1 by omega]
end Go.Proofs.YtfhcpniibiobgaaDoor.Pure
