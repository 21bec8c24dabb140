/- The tests ahead of the law, and the reference's chain in its two uses: plain. -/
import Derived.Test.YtfhcpniibiobgaaDoorPi
namespace Go.Proofs.YtfhcpniibiobgaaDoor.Pure
open Go.RowKit Go.Proofs.YtfhcpniibiobgaaDoorW.PrintWords Go.Proofs.YtfhcpniibiobgaaDoorW.PrintMore Go.Proofs.YtfhcpniibiobgaaDoorW.PrintLast

theorem row_at (L : List (List Int)) (j : Nat) (hj : j < L.length) : Qf.rd_L1 L (j : Int) = L[j] := by
  show L.getD (j : Int).toNat [] = L[j]
  rw [Int.toNat_natCast, List.getD_eq_getElem?_getD, List.getElem?_eq_getElem hj]
  rfl
theorem zz_go (L : List (List Int)) (hL : L.length ≤ 2147483647) : ∀ (m j k : Nat), j + m = L.length → m < k → ∃ b, Qf.laws_zzFits2.l0 k L (L.length : Int) (j : Int) = some b
  | 0, j, k + 1, h, _ => by
    rw [Qf.laws_zzFits2.l0, if_neg (by omega)]
    exact ⟨_, rfl⟩
  | m + 1, j, k + 1, h, hk => by
    rw [Qf.laws_zzFits2.l0, if_pos (by omega), if_pos (by omega), if_pos (by omega)]
    split
    · exact ⟨_, rfl⟩
    · rw [w64p _ (by omega), show ((j : Int) + 1) = ((j + 1 : Nat) : Int) by omega]
      exact zz_go L hL m (j + 1) k (by omega) (by omega)
theorem zz_f (L : List (List Int)) (k : Nat) (hk : 2147483648 ≤ k) : ∃ b, Qf.laws_zzFits2.f k L = some b ∧ (b = true → L.length ≤ 2147483647) := by
  unfold Qf.laws_zzFits2.f
  by_cases h : (L.length : Int) > 2147483647
  · rw [if_pos h]
    exact ⟨_, rfl, fun h => by cases h⟩
  · rw [if_neg h]
    obtain ⟨b, hb⟩ := zz_go L (by omega) L.length 0 k (by omega) (by omega)
    exact ⟨b, hb, fun _ => by omega⟩
theorem small_go (L : List (List Int)) (hL : L.length ≤ 2147483647) : ∀ (m j k : Nat), j + m = L.length → m < k → ∃ b, Qf.laws_logSmall.l0 k L L (L.length : Int) (j : Int) = some b ∧ (b = true → L.length ≤ 300 ∧ ∀ h ∈ L.drop j, h.length ≤ 5000)
  | 0, j, k + 1, h, _ => by
    rw [Qf.laws_logSmall.l0, if_neg (by omega)]
    refine ⟨_, rfl, fun hb => ⟨by have := of_decide_eq_true hb; omega, fun x hx => ?_⟩⟩
    rw [List.drop_eq_nil_of_le (by omega)] at hx
    cases hx
  | m + 1, j, k + 1, h, hk => by
    have hj : j < L.length := by omega
    rw [Qf.laws_logSmall.l0, if_pos (by omega), if_pos (by omega), if_pos (by omega), row_at L j hj]
    by_cases hb : (L[j].length : Int) > 5000
    · rw [if_pos hb]
      exact ⟨_, rfl, fun h => by cases h⟩
    · rw [if_neg hb, w64p _ (by omega), show ((j : Int) + 1) = ((j + 1 : Nat) : Int) by omega]
      obtain ⟨b, e, hbt⟩ := small_go L hL m (j + 1) k (by omega) (by omega)
      refine ⟨b, e, fun ht => ⟨(hbt ht).1, fun x hx => ?_⟩⟩
      rw [List.drop_eq_getElem_cons hj] at hx
      rcases List.mem_cons.1 hx with rfl | hx
      · omega
      · exact (hbt ht).2 x hx
theorem small_f (L : List (List Int)) (hL : L.length ≤ 2147483647) (k : Nat) (hk : 2147483648 ≤ k) : ∃ b, Qf.laws_logSmall.f k L = some b ∧ (b = true → L.length ≤ 300 ∧ ∀ h ∈ L, h.length ≤ 5000) := by
  obtain ⟨b, e, h⟩ := small_go L hL L.length 0 k (by omega) (by omega)
  exact ⟨b, e, fun hb => by simpa using h hb⟩

end Go.Proofs.YtfhcpniibiobgaaDoor.Pure
