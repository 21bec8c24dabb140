/- The tests ahead of the law, and the reference's chain in its two uses: plain. -/
import Derived.Test.YtfhcpniibiobgaaPi
namespace Go.Proofs.Ytfhcpniibiobgaa.Pure
open Go.RowKit Go.Proofs.YtfhcpniibiobgaaW.PrintWords Go.Proofs.YtfhcpniibiobgaaW.PrintMore Go.Proofs.YtfhcpniibiobgaaW.PrintLast

theorem row_at (L : List (List Int)) (j : Nat) (hj : j < L.length) : Qg.rd_L1 L (j : Int) = L[j] := by
  show L.getD (j : Int).toNat [] = L[j]
  rw [Int.toNat_natCast, List.getD_eq_getElem?_getD, List.getElem?_eq_getElem hj]
  rfl
theorem zz_go (L : List (List Int)) (hL : L.length ≤ 2147483647) : ∀ (m j k : Nat), j + m = L.length → m < k → ∃ b, Qg.laws_zzFits2.l0 k L (L.length : Int) (j : Int) = some b
  | 0, j, k + 1, h, _ => by
    rw [Qg.laws_zzFits2.l0, if_neg (by omega)]
    exact ⟨_, rfl⟩
  | m + 1, j, k + 1, h, hk => by
    rw [Qg.laws_zzFits2.l0, if_pos (by omega), if_pos (by omega), if_pos (by omega)]
    split
    · exact ⟨_, rfl⟩
    · rw [w64p _ (by omega), show ((j : Int) + 1) = ((j + 1 : Nat) : Int) by omega]
      exact zz_go L hL m (j + 1) k (by omega) (by omega)
theorem zz_f (L : List (List Int)) (k : Nat) (hk : 2147483648 ≤ k) : ∃ b, Qg.laws_zzFits2.f k L = some b ∧ (b = true → L.length ≤ 2147483647) := by
  unfold Qg.laws_zzFits2.f
  by_cases h : (L.length : Int) > 2147483647
  · rw [if_pos h]
    exact ⟨_, rfl, fun h => by cases h⟩
  · rw [if_neg h]
    obtain ⟨b, hb⟩ := zz_go L (by omega) L.length 0 k (by omega) (by omega)
    exact ⟨b, hb, fun _ => by omega⟩
theorem small_go (L : List (List Int)) (hL : L.length ≤ 2147483647) : ∀ (m j k : Nat), j + m = L.length → m < k → ∃ b, Qg.laws_logSmall.l0 k L L (L.length : Int) (j : Int) = some b ∧ (b = true → L.length ≤ 300 ∧ ∀ h ∈ L.drop j, h.length ≤ 5000)
  | 0, j, k + 1, h, _ => by
    rw [Qg.laws_logSmall.l0, if_neg (by omega)]
    refine ⟨_, rfl, fun hb => ⟨by have := of_decide_eq_true hb; omega, fun x hx => ?_⟩⟩
    rw [List.drop_eq_nil_of_le (by omega)] at hx
    cases hx
  | m + 1, j, k + 1, h, hk => by
    have hj : j < L.length := by omega
    rw [Qg.laws_logSmall.l0, if_pos (by omega), if_pos (by omega), if_pos (by omega), row_at L j hj]
    by_cases hb : (L[j].length : Int) > 5000
    · rw [if_pos hb]
      exact ⟨_, rfl, fun h => by cases h⟩
    · rw [if_neg hb, w64p _ (by omega), show ((j : Int) + 1) = ((j + 1 : Nat) : Int) by omega]
      obtain ⟨b, e, hbt⟩ := small_go L hL m (j + 1) k (by omega) (by omega)
      refine ⟨b, e, fun ht => ⟨(hbt ht).1, fun x hx => ?_⟩⟩
      rw [List.drop_eq_getElem_cons hj] at hx
      rcases List.mem_cons.1 hx with rfl | hx
      · omega
      · exact (hbt ht).2 x hx
theorem small_f (L : List (List Int)) (hL : L.length ≤ 2147483647) (k : Nat) (hk : 2147483648 ≤ k) : ∃ b, Qg.laws_logSmall.f k L = some b ∧ (b = true → L.length ≤ 300 ∧ ∀ h ∈ L, h.length ≤ 5000) := by
  obtain ⟨b, e, h⟩ := small_go L hL L.length 0 k (by omega) (by omega)
  exact ⟨b, e, fun hb => by simpa using h hb⟩

theorem bitI_nat (x i : Nat) (hx : x < 18446744073709551616) : bitI (x : Int) i = ((x / 2 ^ min i 64 % 2 : Nat) : Int) := by
  have h1 : x / 2 ^ min i 64 ≤ x := Nat.div_le_self _ _
  show Go.bits .and .u64 ((x : Int) / 2 ^ min i 64) 1 = _
  rw [show ((x : Int) / 2 ^ min i 64) = ((x / 2 ^ min i 64 : Nat) : Int) by push_cast; rfl, show (1 : Int) = ((1 : Nat) : Int) from rfl, bits_and_u64_nat _ _ (by omega) (by omega), Nat.and_one_is_mod]
theorem chS_inner (a0 a2 a5 : Int) (x : Nat) (hx : x < 18446744073709551616) : ∀ (l : List (List Int)) (s : List Int) (i : Nat), chS a0 a2 a5 (x : Int) false l s i = chI a0 a2 a5 (x : Int) l s i
  | [], s, i => rfl
  | h :: t, s, i => by
    have hb := bitI_nat x i hx
    rw [chS, chI, chS_inner a0 a2 a5 x hx t _ (i + 1), hb]
    rcases Nat.mod_two_eq_zero_or_one (x / 2 ^ min i 64) with e | e
    · rw [e, if_neg (by decide), if_neg (by decide), if_pos (by rfl)]
    · rw [e, if_pos (by decide), if_neg (by decide)]
theorem chS_border (a0 a2 a5 : Int) : ∀ (l : List (List Int)) (s : List Int) (i : Nat), i + l.length ≤ 64 → chS a0 a2 a5 18446744073709551615 true l s i = chB a0 a2 a5 l s
  | [], s, i, _ => rfl
  | h :: t, s, i, hi => by
    rw [List.length_cons] at hi
    have hb := bitI_nat 18446744073709551615 i (by omega)
    have h1 : (18446744073709551615 / 2 ^ min i 64 % 2 : Nat) = 1 := by
      have : ∀ j : Fin 64, (18446744073709551615 / 2 ^ min j.val 64 % 2 : Nat) = 1 := by decide +kernel
      exact this ⟨i, by omega⟩
    rw [h1] at hb
    have hb' : bitI 18446744073709551615 i = 1 := hb
    rw [chS, chB, chS_border a0 a2 a5 t _ (i + 1) (by omega), hb', if_pos (by decide)]
end Go.Proofs.Ytfhcpniibiobgaa.Pure
