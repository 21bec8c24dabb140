/- Several texts, joined. -/
import Derived.Test.YtfhcpniibiobgaaDoorDa
import Derived.Test.YtfhcpniibiobgaaDoorPz
namespace Go.Proofs.YtfhcpniibiobgaaDoor.Pure
open Go.RowKit

/-- The hash of two children. -/
def hcF (a0 a2 a5 : Int) (l1 l2 : List Int) : List Int :=
  if a0 = 1 then Hs.wordF (Hs.mixF a5 (l1 ++ [255] ++ l2)) a2 else [1] ++ Hs.wordF (l1.length : Int) 8 ++ l1 ++ l2
theorem wordF_len (w n : Int) : (Hs.wordF w n).length ≤ 8 := by
  unfold Hs.wordF
  rw [List.length_map, List.length_range]
  exact (Hs.wn_pos n).2
theorem hcF_len (a0 a2 a5 : Int) (l1 l2 : List Int) : (hcF a0 a2 a5 l1 l2).length ≤ l1.length + l2.length + 9 := by
  unfold hcF
  split
  · have := wordF_len (Hs.mixF a5 (l1 ++ [255] ++ l2)) a2
    omega
  · have := wordF_len (l1.length : Int) 8
    simp only [List.length_append, List.length_cons, List.length_nil]
    omega
theorem toyHC (a0 a1 a2 a3 a4 a5 : Int) (l1 l2 : List Int) (h1 : l1.length ≤ 10000000000000) (h2 : l2.length ≤ 10000000000000) : Qf.impl_toy_HashChildren.f a0 a1 a2 a3 a4 a5 l1 l2 = some (hcF a0 a2 a5 l1 l2) := by
  unfold Qf.impl_toy_HashChildren.f hcF
  by_cases h : a0 = 1
  · rw [if_pos h, if_pos h]
    simp only [Qf.impl_mixed.f, Qf.impl_word.f]
    rw [if_pos (by omega)]
    simp only [Option.bind_some]
    rw [if_pos (by simp)]
    simp only [Option.bind_some]
    rw [if_pos (by omega)]
    simp only [Option.bind_some]
    congr 2
    unfold Hs.mixF
    rw [List.foldl_append, List.foldl_append]
  · rw [if_neg h, if_neg h]
    have hw : IntKind.u64.wrap (l1.length : Int) = l1.length := by
      show ((l1.length : Int)) % 18446744073709551616 = l1.length
      omega
    have hl := wordF_len (l1.length : Int) 8
    simp only [Option.bind_some, Qf.impl_word.f, hw]
    rw [if_pos (by simp only [List.length_cons, List.length_nil]; omega), if_pos (by simp only [List.length_append, List.length_cons, List.length_nil]; omega), if_pos (by simp only [List.length_append, List.length_cons, List.length_nil]; omega)]

theorem w64p (n : Int) (h : -9223372036854775808 ≤ n ∧ n ≤ 9223372036854775807) : wrap64 n = n := by unfold wrap64; omega
end Go.Proofs.YtfhcpniibiobgaaDoor.Pure
namespace Go.Proofs.YtfhcpniibiobgaaDoor.Pure
open Go.RowKit Go.Proofs.YtfhcpniibiobgaaDoorW.PrintWords Go.Proofs.YtfhcpniibiobgaaDoorW.PrintMore Go.Proofs.YtfhcpniibiobgaaDoorW.PrintLast

/-- Bit i of an index. -/
abbrev bitI (ix : Int) (i : Nat) : Int := Go.bits .and .u64 (ix / 2 ^ min i 64) 1
def chI (a0 a2 a5 ix : Int) : List (List Int) → List Int → Nat → List Int
  | [], s, _ => s
  | h :: t, s, i => chI a0 a2 a5 ix t (if bitI ix i = 0 then hcF a0 a2 a5 s h else hcF a0 a2 a5 h s) (i + 1)
def chB (a0 a2 a5 : Int) : List (List Int) → List Int → List Int
  | [], s => s
  | h :: t, s => chB a0 a2 a5 t (hcF a0 a2 a5 h s)
theorem chI_len (a0 a2 a5 ix : Int) : ∀ (l : List (List Int)) (s : List Int) (i : Nat), (∀ h ∈ l, h.length ≤ 3000000000) → (chI a0 a2 a5 ix l s i).length ≤ s.length + 3000000009 * l.length
  | [], s, i, _ => by simp [chI]
  | h :: t, s, i, hl => by
    have h1 := hl h (by simp)
    have e1 := hcF_len a0 a2 a5 s h
    have e2 := hcF_len a0 a2 a5 h s
    rw [chI, List.length_cons]
    split
    · have := chI_len a0 a2 a5 ix t (hcF a0 a2 a5 s h) (i + 1) (fun x hx => hl x (by simp [hx]))
      omega
    · have := chI_len a0 a2 a5 ix t (hcF a0 a2 a5 h s) (i + 1) (fun x hx => hl x (by simp [hx]))
      omega
theorem chB_len (a0 a2 a5 : Int) : ∀ (l : List (List Int)) (s : List Int), (∀ h ∈ l, h.length ≤ 3000000000) → (chB a0 a2 a5 l s).length ≤ s.length + 3000000009 * l.length
  | [], s, _ => by simp [chB]
  | h :: t, s, hl => by
    have h1 := hl h (by simp)
    have e2 := hcF_len a0 a2 a5 h s
    rw [chB, List.length_cons]
    have := chB_len a0 a2 a5 t (hcF a0 a2 a5 h s) (fun x hx => hl x (by simp [hx]))
    omega
theorem toyI (a0 a1 a2 a3 a4 a5 ix : Int) : ∀ (l : List (List Int)) (s : List Int) (i : Nat), (∀ h ∈ l, h.length ≤ 3000000000) → s.length + 3000000009 * l.length ≤ 10000000000000 → Qf.chainI a0 a1 a2 a3 a4 a5 ix l s i = some (chI a0 a2 a5 ix l s i)
  | [], s, i, _, _ => rfl
  | h :: t, s, i, hl, hs => by
    have h1 := hl h (by simp)
    rw [List.length_cons] at hs
    have e1 := hcF_len a0 a2 a5 s h
    have e2 := hcF_len a0 a2 a5 h s
    rw [Qf.chainI, chI, toyHC a0 a1 a2 a3 a4 a5 s h (by omega) (by omega), toyHC a0 a1 a2 a3 a4 a5 h s (by omega) (by omega)]
    by_cases hb : bitI ix i = 0
    · rw [if_pos hb, if_pos hb, Option.bind_some]
      exact toyI a0 a1 a2 a3 a4 a5 ix t _ (i + 1) (fun x hx => hl x (by simp [hx])) (by omega)
    · rw [if_neg hb, if_neg hb, Option.bind_some]
      exact toyI a0 a1 a2 a3 a4 a5 ix t _ (i + 1) (fun x hx => hl x (by simp [hx])) (by omega)
theorem toyB (a0 a1 a2 a3 a4 a5 : Int) : ∀ (l : List (List Int)) (s : List Int), (∀ h ∈ l, h.length ≤ 3000000000) → s.length + 3000000009 * l.length ≤ 10000000000000 → Qf.chainB a0 a1 a2 a3 a4 a5 l s = some (chB a0 a2 a5 l s)
  | [], s, _, _ => rfl
  | h :: t, s, hl, hs => by
    have h1 := hl h (by simp)
    rw [List.length_cons] at hs
    have e2 := hcF_len a0 a2 a5 h s
    rw [Qf.chainB, chB, toyHC a0 a1 a2 a3 a4 a5 h s (by omega) (by omega), Option.bind_some]
    exact toyB a0 a1 a2 a3 a4 a5 t _ (fun x hx => hl x (by simp [hx])) (by omega)

end Go.Proofs.YtfhcpniibiobgaaDoor.Pure
namespace Go.Proofs.YtfhcpniibiobgaaDoor.Pure
open Go.RowKit Go.Proofs.YtfhcpniibiobgaaDoorW.PrintWords Go.Proofs.YtfhcpniibiobgaaDoorW.PrintMore Go.Proofs.YtfhcpniibiobgaaDoorW.PrintLast

theorem row_at (L : List (List Int)) (j : Nat) (hj : j < L.length) : Qf.rd_L1 L (j : Int) = L[j] := by
  show L.getD (j : Int).toNat [] = L[j]
  rw [Int.toNat_natCast, List.getD_eq_getElem?_getD, List.getElem?_eq_getElem hj]
  rfl
theorem zz_go (L : List (List Int)) (hL : L.length ≤ 2147483647) : ∀ (m j k : Nat), j + m = L.length → m < k → ∃ b, Qf.laws_zzFits2.l0 k L (L.length : Int) (j : Int) = some b
  | 0, j, k + 1, h, _ => by
    rw [Qf.laws_zzFits2.l0, if_neg (by omega)]
    exact ⟨_, rfl⟩
  | m + 1, j, k + 1, h, hk => by
    rw [Qf.laws_zzFits2.l0, if_pos (by omega), if_pos (by omega), if_pos (by omega)]
    split
    · exact ⟨_, rfl⟩
    · rw [w64p _ (by omega), show ((j : Int) + 1) = ((j + 1 : Nat) : Int) by omega]
      exact zz_go L hL m (j + 1) k (by omega) (by omega)
theorem zz_f (L : List (List Int)) (k : Nat) (hk : 2147483648 ≤ k) : ∃ b, Qf.laws_zzFits2.f k L = some b ∧ (b = true → L.length ≤ 2147483647) := by
  unfold Qf.laws_zzFits2.f
  by_cases h : (L.length : Int) > 2147483647
  · rw [if_pos h]
    exact ⟨_, rfl, fun h => by cases h⟩
  · rw [if_neg h]
    obtain ⟨b, hb⟩ := zz_go L (by omega) L.length 0 k (by omega) (by omega)
    exact ⟨b, hb, fun _ => by omega⟩
theorem small_go (L : List (List Int)) (hL : L.length ≤ 2147483647) : ∀ (m j k : Nat), j + m = L.length → m < k → ∃ b, Qf.laws_logSmall.l0 k L L (L.length : Int) (j : Int) = some b ∧ (b = true → L.length ≤ 300 ∧ ∀ h ∈ L.drop j, h.length ≤ 5000)
  | 0, j, k + 1, h, _ => by
    rw [Qf.laws_logSmall.l0, if_neg (by omega)]
    refine ⟨_, rfl, fun hb => ⟨by have := of_decide_eq_true hb; omega, fun x hx => ?_⟩⟩
    rw [List.drop_eq_nil_of_le (by omega)] at hx
    cases hx
  | m + 1, j, k + 1, h, hk => by
    have hj : j < L.length := by omega
    rw [Qf.laws_logSmall.l0, if_pos (by omega), if_pos (by omega), if_pos (by omega), row_at L j hj]
    by_cases hb : (L[j].length : Int) > 5000
    · rw [if_pos hb]
      exact ⟨_, rfl, fun h => by cases h⟩
    · rw [if_neg hb, w64p _ (by omega), show ((j : Int) + 1) = ((j + 1 : Nat) : Int) by omega]
      obtain ⟨b, e, hbt⟩ := small_go L hL m (j + 1) k (by omega) (by omega)
      refine ⟨b, e, fun ht => ⟨(hbt ht).1, fun x hx => ?_⟩⟩
      rw [List.drop_eq_getElem_cons hj] at hx
      rcases List.mem_cons.1 hx with rfl | hx
      · omega
      · exact (hbt ht).2 x hx
theorem small_f (L : List (List Int)) (hL : L.length ≤ 2147483647) (k : Nat) (hk : 2147483648 ≤ k) : ∃ b, Qf.laws_logSmall.f k L = some b ∧ (b = true → L.length ≤ 300 ∧ ∀ h ∈ L, h.length ≤ 5000) := by
  obtain ⟨b, e, h⟩ := small_go L hL L.length 0 k (by omega) (by omega)
  exact ⟨b, e, fun hb => by simpa using h hb⟩

theorem bitI_nat (x i : Nat) (hx : x < 18446744073709551616) : bitI (x : Int) i = ((x / 2 ^ min i 64 % 2 : Nat) : Int) := by
  have h1 : x / 2 ^ min i 64 ≤ x := Nat.div_le_self _ _
  show Go.bits .and .u64 ((x : Int) / 2 ^ min i 64) 1 = _
  rw [show ((x : Int) / 2 ^ min i 64) = ((x / 2 ^ min i 64 : Nat) : Int) by push_cast; rfl, show (1 : Int) = ((1 : Nat) : Int) from rfl, bits_and_u64_nat _ _ (by omega) (by omega), Nat.and_one_is_mod]
end Go.Proofs.YtfhcpniibiobgaaDoor.Pure
namespace Go.Proofs.YtfhcpniibiobgaaDoor.Pure
open Go.RowKit Go.Proofs.YtfhcpniibiobgaaDoorW.PrintWords Go.Proofs.YtfhcpniibiobgaaDoorW.PrintMore Go.Proofs.YtfhcpniibiobgaaDoorW.PrintLast
open Go.Proofs.YtfhcpniibiobgaaDoor.M (vlen inn vlen_left vlen_right vlen_one)

theorem wu (n : Int) (h : 0 ≤ n ∧ n < 18446744073709551616) : IntKind.u64.wrap n = n := by
  show n % 18446744073709551616 = n
  omega
theorem vlen_pow : ∀ (t i : Nat), t < 64 → i < 2 ^ t → vlen i (2 ^ t) = t
  | 0, i, _, h => by
    obtain rfl : i = 0 := by simpa using h
    exact vlen_one
  | t + 1, i, ht, h => by
    have hq : 2 ^ (t + 1) = 2 * 2 ^ t := by rw [Nat.pow_succ, Nat.mul_comm]
    have hp := Nat.two_pow_pos t
    have h64 : 2 ^ (t + 1) < 2 ^ 64 := Nat.pow_lt_pow_right (by omega) (by omega)
    by_cases hi : i < 2 ^ t
    · exact vlen_left (by omega) hi (by omega) (Nat.le_refl _) h64
    · rw [vlen_right (by omega) (by omega) h (Nat.le_refl _), show 2 ^ (t + 1) - 2 ^ t = 2 ^ t by omega, vlen_pow t (i - 2 ^ t) (by omega) (by omega)]
end Go.Proofs.YtfhcpniibiobgaaDoor.Pure
